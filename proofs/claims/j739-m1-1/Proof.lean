import JvmDerived
import JvmDerived.Pilot.@@N@@Statement
import JvmDerived.Pilot.@@N@@Code
set_option linter.unusedVariables false
set_option linter.unusedSimpArgs false

namespace Jvm.RoadKit
open Sem ClassFile Op Lib Jvm.Stand Jvm.Free Jvm.LawKit
section New
variable {p : Program} {l : Launch} {e : Env} {R : Room} {s : State} {m : MethodId} {args : Array Value} {below : List Frame} {meth : Method} {c : Code} {T : State} {locs : List Loc} {cells slots : Nat}
theorem retI (X : Stand p l e R s m args below meth c T locs cells slots) (hx : p.tables.exec = Jvm.exec) {pc : Nat} {Ls : Array Slot} {z : Int32} {rest : List Value} (hret : meth.sig.returnType = some .int) (hd : decode c.code pc = .ok (.ireturn, 1)) {fs : List Frame}
    (hl : ∀ (f : JFrame) (acts : List Action), f.method = m → f.locked = none → f.entered = [] → (doReturn e (T.setTop f) acts (some (.int z))).1 = T.setFrames fs) : Steps p.tables e below (T.setTop (mkF m pc Ls (.int z :: rest))) (T.setFrames fs) := by
  have hm' : T.vm.method? m = some meth := X.method'
  have hn : narrow .int (.int z) = .int z := rfl
  show Steps p.tables e below (T.setTop { method := m, pc := pc, locals := Ls, stack := _ :: rest, locked := none }) _
  jvm_step X.here [X.here.top, hx, hd, hm', hret, hn]
  first | (intro acts; rw [hl _ acts rfl rfl rfl]) | rw [hl _ _ rfl rfl rfl]
  exact Steps.refl _
end New
end Jvm.RoadKit

namespace Jvm.Pilot.@@N@@
open Jvm Jvm.ClassFile Sem Op Lib Jvm.Free Jvm.Stand Jvm.LawKit Jvm.RoadKit Bundle Jvm.Pilot.@@N@@.Jvm.D
theorem own_stak {Z : State} {h h' : Heap} {C n d : String} {v : Value} {ws : List Addr} (F : Sta Z h C n d v) (K : Keep h h' ws) (q : ∀ x ∈ ws, ∀ c : Cell, h[x]? = some c → c.vm.isStatics = false) : Sta Z h' C n d v := by
  obtain ⟨cf, i, k, f, st, cell, h1, h2, h3, h4, h5, h6, h7⟩ := F
  refine ⟨cf, i, k, f, st, cell, h1, h2, h3, h4, K.2.1 st cell h5 (fun hm => ?_), h6, h7⟩
  have e := q st hm cell h5
  rw [h6] at e; cases e
theorem own_exns {Z : State} {h : Heap} {a : Addr} {C : String} (E : Exa Z h a C) : ∀ c : Cell, h[a]? = some c → c.vm.isStatics = false := fun c hc => by
  obtain ⟨c', k, e1, -, -, e4, -⟩ := E
  cases hc.symm.trans e1; exact e4
theorem own_arns {Z : State} {h : Heap} {a : Addr} {k : ClassId} {ty : FieldType} {z : Int32} {vs : List Value} {d : Value} (A : Arv Z h a k ty z vs d) : ∀ c : Cell, h[a]? = some c → c.vm.isStatics = false := fun c hc => by
  obtain ⟨c', A', -⟩ := A
  have e := A'.plain
  cases hc.symm.trans A'.1; exact e
abbrev oS (p : Program) (e : Env) (below : List Frame) (T : State) (g : JFrame) (t : State) : Prop := Steps p.tables e below (T.setTop g) t
theorem own_w (i : Nat) {d : Jvm.Cond} (h : tables_1[i]? = some d) : d ∈ tables_1 := List.mem_of_getElem? h
abbrev own_Met (l : Launch) (y : MethodName) (bytes : ByteArray) (maxL : Nat) (ret : Option FieldType) (ws : List Jvm.Cond) (rm : Room) (as' : Array Value) (Z : State) (h0 : Heap) (Q : Option Value → Heap → List Loc → Prop) : Prop :=
  MetFree l y (head1 (Jvm.Cond.code y bytes maxL ret :: ws) rm) (fun aU U => aU = as' ∧ Z.Warmed39 U.vm ∧ U.heap = h0) (fun _ _ _ _ _ => True) (fun _ U oU U' => ∃ vU LU, oU = .returned vU ∧ Q vU U'.heap LU ∧ FrameEnd U oU U' LU rm.cells rm.slots)
theorem own_weak {l : Launch} {y : MethodName} {bytes : ByteArray} {maxL : Nat} {ret : Option FieldType} {ws : List Jvm.Cond} {rm : Room} {as' : Array Value} {Z : State} {h0 : Heap} {Q Q' : Option Value → Heap → List Loc → Prop} (h : own_Met l y bytes maxL ret ws rm as' Z h0 Q) (hq : ∀ v t L, Q v t L → Q' v t L) : own_Met l y bytes maxL ret ws rm as' Z h0 Q' := by
  intro p e ha hc hk s m args below hf happ hP hK
  obtain ⟨n, o, h1, h2, h3, v, L, h4, h5, h6⟩ := h p e ha hc hk s m args below hf happ hP hK
  exact ⟨n, o, h1, h2, h3, v, L, h4, hq _ _ _ h5, h6⟩
theorem own_start {p : Program} {l : Launch} {y : MethodName} {ws : List Jvm.Cond} {rm : Room} {code : ByteArray} {maxL : Nat} {ret : Option FieldType} {e : Env} {s : State} {m : MethodId} {args : Array Value} {below : List Frame} {meth : Method} {c : Code} {s₁ : State} {h0 : Heap}
    (Bd : BodyLoose p l y (head1 ws rm) code maxL ret e s m args below meth c s₁) (hml : c.maxLocals = maxL) (hh : s.heap = h0) :
    p.tables.exec = Jvm.exec ∧ c.code = code ∧ s.vm.findClass y.cls = some m.cls ∧ meth.name = y.name ∧ Stand p l e rm s m args below meth c s₁ [] 0 0 ∧ s₁.heap = h0 :=
  ⟨Bd.exec, Bd.bytes, findClass_of_methodNamed Bd.named, (name_of_methodNamed Bd.named Bd.method).1, Stand.of_body Bd, by rw [← hh, Bd.state]; rfl⟩
section OwnCalls
variable {p : Program} {l : Launch} {e : Env} {R : Room} {s : State} {m : MethodId} {args : Array Value} {below : List Frame} {meth : Method} {c : Code} {T : State} {locs : List Loc} {cells slots : Nat} {Z : State} {a0 : Array Value} {h : Heap}
  {own : String} {index : Nat} {y z : MethodName} {bytes : ByteArray} {maxL : Nat} {ret : Option FieldType} {rm : Room} {W : Nat} {as' : Array Value} {Q : Option Value → Heap → List Loc → Prop}
theorem own_callS (X : Stand p l e R s m args below meth c T locs cells slots) (hx : p.tables.exec = Jvm.exec) (hZ : Z.Warmed39 s.vm) (hown : s.vm.findClass own = some m.cls) (hlink : (Cond.methodLink own index y).before a0 Z = true) (hstat : (Cond.static y).before a0 Z = true) (hinit : (Cond.initialized y.cls).before a0 Z = true)
    (hcode : (Cond.code y bytes maxL ret).before a0 Z = true) (hy : y.cls ≠ "java/lang/invoke/MethodHandle" ∧ y.cls ≠ "java/lang/invoke/VarHandle")
    (hM : own_Met l y bytes maxL ret [] rm as' Z h Q)
    (hf : rm.frames + 1 ≤ R.frames) (hl : W + (maxL + 11) + rm.locals ≤ R.locals) {g : JFrame} (hg : g.method = m) (hsize : g.locals.size = c.maxLocals) {argsL rest : List Value} (hlen : ∀ sig, parseMethodDescriptor y.desc = some sig → argsL.length = sig.parameters.length)
    (hstack : g.stack = argsL.reverse ++ rest) (hdg : decode c.code g.pc = .ok (.invokestatic index, 3)) (has : argsL.toArray = as') (eT : T.heap = h) (hc : cells + rm.cells ≤ R.cells) (hs : slots + rm.slots ≤ R.slots) (hW : 2 * g.monitorRoom + (rest.map fun v => v.category).sum ≤ W := by show 2 * 0 + _ ≤ _; exact Nat.le_of_eq rfl) :
    ∃ (v : Option Value) (T' : State) (L : List Loc), Stand p l e R s m args below meth c T' (locs ++ L) (cells + rm.cells) (slots + rm.slots) ∧ Q v T'.heap L ∧ ∀ target, Steps p.tables e below (T'.setTop { g with pc := g.pc + 3, stack := v.toList ++ rest }) target → Steps p.tables e below (T.setTop g) target := by
  obtain ⟨v, _, ⟨T3, L3, k3, n3⟩, -, X3, ⟨Lc3, hQ3, l3, y3, z3⟩, st3⟩ := Jvm.LawKit.callS X hx hown (mvT hZ hlink) (mvT hZ hstat) (mvT hZ hinit) (mvT hZ hcode) hy (backOf (W := W) hM hZ hcode hinit hf hl) hg hsize hlen hstack hW hdg (fun _ _ => ⟨has, eT, hc, hs⟩)
  dsimp only [Pt.U, Pt.locs, Pt.cells, Pt.slots] at X3 l3 y3 z3 st3 hQ3
  subst l3 y3 z3
  exact ⟨v, T3, Lc3, X3, hQ3, st3⟩
theorem own_special (X : Stand p l e R s m args below meth c T locs cells slots) (hx : p.tables.exec = Jvm.exec) (hZ : Z.Warmed39 s.vm) (hy1 : y.name = "<init>") (hown : s.vm.findClass own = some m.cls) (hlink : (Cond.methodLink own index y).before a0 Z = true) (hinst : (Cond.instanceMethod y).before a0 Z = true)
    (hcode : (Cond.code y bytes maxL none).before a0 Z = true) (hinit : (Cond.initialized y.cls).before a0 Z = true) (hy : y.cls ≠ "java/lang/invoke/MethodHandle" ∧ y.cls ≠ "java/lang/invoke/VarHandle")
    (hM : own_Met l y bytes maxL none [] rm as' Z h Q)
    (hf : rm.frames + 1 ≤ R.frames) (hl : W + (maxL + 11) + rm.locals ≤ R.locals) {g : JFrame} (hg : g.method = m) (hsize : g.locals.size = c.maxLocals) {a : Addr} {argsL rest : List Value} (hlen : ∀ sig, parseMethodDescriptor y.desc = some sig → argsL.length = sig.parameters.length)
    (hstack : g.stack = argsL.reverse ++ .ref a :: rest) (hdg : decode c.code g.pc = .ok (.invokespecial index, 3)) (has : (.ref a :: argsL).toArray = as') (eT : T.heap = h) (hc : cells + rm.cells ≤ R.cells) (hs : slots + rm.slots ≤ R.slots) (hW : 2 * g.monitorRoom + (rest.map fun v => v.category).sum ≤ W := by show 2 * 0 + _ ≤ _; exact Nat.le_of_eq rfl) :
    ∃ (v : Option Value) (T' : State) (L : List Loc), Stand p l e R s m args below meth c T' (locs ++ L) (cells + rm.cells) (slots + rm.slots) ∧ Q v T'.heap L ∧ ∀ target, Steps p.tables e below (T'.setTop { g with pc := g.pc + 3, stack := v.toList ++ rest }) target → Steps p.tables e below (T.setTop g) target := by
  obtain ⟨v, _, ⟨T3, L3, k3, n3⟩, -, X3, ⟨Lc3, hQ3, l3, y3, z3⟩, st3⟩ := X.specialBack hx hy1 hown (mvT hZ hlink) (mvT hZ hinst) (mvT hZ hcode) hy (backOf (W := W) hM hZ hcode hinit hf hl) hg hsize (Steps.refl _) hlen hstack hW hdg (fun _ _ => ⟨has, eT, hc, hs⟩)
  dsimp only [Pt.U, Pt.locs, Pt.cells, Pt.slots] at X3 l3 y3 z3 st3 hQ3
  subst l3 y3 z3
  exact ⟨v, T3, Lc3, X3, hQ3, fun target k => st3.trans k⟩
theorem own_virtual (X : Stand p l e R s m args below meth c T locs cells slots) (hx : p.tables.exec = Jvm.exec) (hZ : Z.Warmed39 s.vm) {C : String} (hown : s.vm.findClass own = some m.cls) (hlink : (Cond.methodLink own index y).before a0 Z = true) (hdecl : (Cond.declares y).before a0 Z = true) (hnf : NotFace s y) (hsel : (Cond.selects C y z).before a0 Z = true) (hinst : (Cond.instanceMethod z).before a0 Z = true)
    (hcode : (Cond.code z bytes maxL ret).before a0 Z = true) (hinit : (Cond.initialized z.cls).before a0 Z = true) (hy : y.cls ≠ "java/lang/invoke/MethodHandle" ∧ y.cls ≠ "java/lang/invoke/VarHandle")
    (hM : own_Met l z bytes maxL ret [] rm as' Z h Q)
    (hf : rm.frames + 1 ≤ R.frames) (hl : W + (maxL + 11) + rm.locals ≤ R.locals) {a : Addr} (E : Exa Z h a C) {g : JFrame} (hg : g.method = m) (hsize : g.locals.size = c.maxLocals) {argsL rest : List Value} (hlen : ∀ sig, parseMethodDescriptor y.desc = some sig → argsL.length = sig.parameters.length)
    (hstack : g.stack = argsL.reverse ++ .ref a :: rest) (hdg : decode c.code g.pc = .ok (.invokevirtual index, 3)) (has : (.ref a :: argsL).toArray = as') (eT : T.heap = h) (hc : cells + rm.cells ≤ R.cells) (hs : slots + rm.slots ≤ R.slots) (hW : 2 * g.monitorRoom + (rest.map fun v => v.category).sum ≤ W := by show 2 * 0 + _ ≤ _; exact Nat.le_of_eq rfl) :
    ∃ (v : Option Value) (T' : State) (L : List Loc), Stand p l e R s m args below meth c T' (locs ++ L) (cells + rm.cells) (slots + rm.slots) ∧ Q v T'.heap L ∧ ∀ target, Steps p.tables e below (T'.setTop { g with pc := g.pc + 3, stack := v.toList ++ rest }) target → Steps p.tables e below (T.setTop g) target := by
  obtain ⟨cq, kq, qa, qb, qc⟩ := isOf hZ eT E
  obtain ⟨v, _, ⟨T3, L3, k3, n3⟩, -, X3, ⟨Lc3, hQ3, l3, y3, z3⟩, st3⟩ := X.virtualBack hx hown (mvT hZ hlink) (mvT hZ hdecl) hnf (mvT hZ hsel) (mvT hZ hinst) hy (backOf (W := W) hM hZ hcode hinit hf hl) qa qc hg hsize (Steps.refl _) hlen hstack hW hdg (fun _ _ => ⟨has, eT, hc, hs⟩)
  dsimp only [Pt.U, Pt.locs, Pt.cells, Pt.slots] at X3 l3 y3 z3 st3 hQ3
  subst l3 y3 z3
  exact ⟨v, T3, Lc3, X3, hQ3, fun target k => st3.trans k⟩
end OwnCalls
abbrev mN0 : MethodName := ⟨"com/example/graftwork/graftwork/generate/Components", "count", "()I"⟩
abbrev mN1 : MethodName := ⟨"com/example/graftwork/graftwork/generate/ComponentsJoinPinLaw", "first", "(II)I"⟩
abbrev mN2 : MethodName := ⟨"com/example/graftwork/graftwork/generate/ComponentsJoinPinLaw", "second", "(II)I"⟩
abbrev mN3 : MethodName := ⟨"com/example/graftwork/graftwork/generate/Components", "root", "(I)I"⟩
abbrev mN4 : MethodName := ⟨"com/example/graftwork/graftwork/generate/Components", "join", "(II)Z"⟩
abbrev mN5 : MethodName := ⟨"com/example/graftwork/graftwork/generate/ComponentsJoinPinLaw", "refJoin", "([III)Z"⟩
abbrev mN6 : MethodName := ⟨"com/example/graftwork/graftwork/generate/Components", "<init>", "(I)V"⟩
theorem own_private {p : Program} {l : Launch} {e : Env} {R : Room} {s : State} {m : MethodId} {args : Array Value} {below : List Frame} {meth : Method} {c : Code} {T : State} {locs : List Loc} {cells slots : Nat} {Z : State} {a0 : Array Value} {h : Heap}
    {own : String} {index n : Nat} {y : MethodName} {bytes : ByteArray} {maxL : Nat} {ret : Option FieldType} {rm : Room} {W : Nat} {as' : Array Value} {Q : Option Value → Heap → List Loc → Prop}
    (X : Stand p l e R s m args below meth c T locs cells slots) (hx : p.tables.exec = Jvm.exec) (hZ : Z.Warmed39 s.vm) {C : String} (hown : s.vm.findClass own = some m.cls) (hlink : (Cond.methodLink own index y).before a0 Z = true) (hins : (Cond.instantiable y.cls n).before a0 Z = true) (hpriv : (Cond.privateMethod y).before a0 Z = true) (hinst : (Cond.instanceMethod y).before a0 Z = true)
    (hcode : (Cond.code y bytes maxL ret).before a0 Z = true) (hinit : (Cond.initialized y.cls).before a0 Z = true) (hy : y.cls ≠ "java/lang/invoke/MethodHandle" ∧ y.cls ≠ "java/lang/invoke/VarHandle")
    (hM : own_Met l y bytes maxL ret [] rm as' Z h Q)
    (hf : rm.frames + 1 ≤ R.frames) (hl : W + (maxL + 11) + rm.locals ≤ R.locals) {a : Addr} (E : Exa Z h a C) {g : JFrame} (hg : g.method = m) (hsize : g.locals.size = c.maxLocals) {argsL rest : List Value} (hlen : ∀ sig, parseMethodDescriptor y.desc = some sig → argsL.length = sig.parameters.length)
    (hstack : g.stack = argsL.reverse ++ .ref a :: rest) (hdg : decode c.code g.pc = .ok (.invokevirtual index, 3)) (has : (.ref a :: argsL).toArray = as') (eT : T.heap = h) (hc : cells + rm.cells ≤ R.cells) (hs : slots + rm.slots ≤ R.slots) (hW : 2 * g.monitorRoom + (rest.map fun v => v.category).sum ≤ W := by show 2 * 0 + _ ≤ _; exact Nat.le_of_eq rfl) :
    ∃ (v : Option Value) (T' : State) (L : List Loc), Stand p l e R s m args below meth c T' (locs ++ L) (cells + rm.cells) (slots + rm.slots) ∧ Q v T'.heap L ∧ ∀ target, Steps p.tables e below (T'.setTop { g with pc := g.pc + 3, stack := v.toList ++ rest }) target → Steps p.tables e below (T.setTop g) target := by
  obtain ⟨cq, qa, qc⟩ := E.cell
  have hP : s.PrivateAt y := Cond.privateMethod_at (mvP hZ hpriv (args := #[]))
  obtain ⟨c1, k1, hc1, hk1, -, hniab, -, -⟩ := Cond.instantiable_spec (mvT hZ hins (args := #[]))
  have hsel := selects_self_of_private (args := args) hc1 hk1 (Bool.or_eq_false_iff.mp hniab).1 hP (mvT hZ hinst) hy
  obtain ⟨v, _, ⟨T3, L3, k3, n3⟩, -, X3, ⟨Lc3, hQ3, l3, y3, z3⟩, st3⟩ := X.privateBack hx hown (mvT hZ hlink) (mvT hZ hinst) hsel hP (mvT hZ hcode) hy (backOf (W := W) hM hZ hcode hinit hf hl) hg hsize (Steps.refl _) (by rw [eT]; exact qa) qc hlen hstack hW hdg (fun _ _ => ⟨has, eT, hc, hs⟩)
  dsimp only [Pt.U, Pt.locs, Pt.cells, Pt.slots] at X3 l3 y3 z3 st3 hQ3
  subst l3 y3 z3
  exact ⟨v, T3, Lc3, X3, hQ3, fun target k => st3.trans k⟩
def own_n (i : Nat) : Int32 := Int32.ofNat i
theorem own_nI {i : Nat} (h : i ≤ 4) : (own_n i).toInt = i := by
  unfold own_n
  rw [Int32.toInt_ofNat_of_lt (by omega)]
theorem own_nc {i : Nat} (h : i ≤ 4) : (own_n i).toNatClampNeg = i := by
  have := own_nI h
  simp [Int32.toNatClampNeg, this]
theorem own_ninj {i j : Nat} (hi : i ≤ 4) (hj : j ≤ 4) (h : own_n i = own_n j) : i = j := by
  have := congrArg Int32.toInt h
  rw [own_nI hi, own_nI hj] at this; omega
theorem own_nlt {i j : Nat} (hi : i < j) (hj : j ≤ 4) : ¬ own_n i < 0 ∧ own_n i < own_n j := by
  simp only [Int32.lt_iff_toInt_lt, own_nI hj, own_nI (Nat.le_trans (Nat.le_of_lt hi) hj), show (0 : Int32).toInt = 0 from rfl]; omega
def own_upd (f : Nat → Nat) (k j : Nat) (i : Nat) : Nat := if i = k then j else f i
def own_R (R : Nat → Nat) (x y : Nat) (i : Nat) : Nat := if R i = x then y else R i
def own_L (g : Nat → Int32) (x y : Int32) (i : Nat) : Int32 := if g i = x then y else g i
def own_Inv (n : Nat) (f R d : Nat → Nat) : Prop := ∀ i, i < n → f i < n ∧ R i < n ∧ f (R i) = R i ∧ R (f i) = R i ∧ (f i = i → R i = i) ∧ (f i ≠ i → d (f i) < d i)
theorem own_Inv0 (n : Nat) : own_Inv n (fun i => i) (fun i => i) (fun _ => 0) := fun i hi => ⟨hi, hi, rfl, rfl, fun _ => rfl, fun h => absurd rfl h⟩
theorem own_Invd {n : Nat} {f R d : Nat → Nat} (h : own_Inv n f R d) {k : Nat} (hk : k < n) (hf : ¬ f k = k) : d (f (f k)) < d k := by
  have h1 := (h k hk).2.2.2.2.2 hf
  have hb := (h k hk).1
  by_cases q : f (f k) = f k
  · rw [q]; exact h1
  · exact Nat.lt_trans ((h _ hb).2.2.2.2.2 q) h1
theorem own_Invh {n : Nat} {f R d : Nat → Nat} (h : own_Inv n f R d) {k : Nat} (hk : k < n) (hf : ¬ f k = k) : own_Inv n (own_upd f k (f (f k))) R d := by
  have hd := own_Invd h hk hf
  have hb := (h k hk).1
  have hRk : R (f (f k)) = R k := by rw [(h _ hb).2.2.2.1, (h k hk).2.2.2.1]
  intro i hi
  obtain ⟨a1, a2, a3, a4, a5, a6⟩ := h i hi
  have hne : R i ≠ k := fun q => hf (q ▸ a3)
  refine ⟨?_, a2, ?_, ?_, ?_, ?_⟩
  · unfold own_upd; split
    · exact (h _ hb).1
    · exact a1
  · unfold own_upd; rw [if_neg hne]; exact a3
  · unfold own_upd; split
    · next q => rw [q, hRk]
    · exact a4
  · unfold own_upd; split
    · next q => intro e; rw [e, q] at hd; exact absurd hd (Nat.lt_irrefl _)
    · exact a5
  · unfold own_upd; split
    · next q => intro _; rw [q]; exact hd
    · exact a6
theorem own_Invj {n : Nat} {f R d : Nat → Nat} (h : own_Inv n f R d) {ka kb : Nat} (ha : ka < n) (hb : kb < n) (hne : ¬ R ka = R kb) :
    ∃ d', own_Inv n (own_upd f (R ka) (R kb)) (own_R R (R ka) (R kb)) d' := by
  refine ⟨fun i => if R i = R ka then d i + d (R kb) + 1 else d i, ?_⟩
  have fa := (h ka ha).2.2.1
  have fb := (h kb hb).2.2.1
  have la := (h ka ha).2.1
  have lb := (h kb hb).2.1
  have ra : R (R ka) = R ka := (h _ la).2.2.2.2.1 fa
  have rb : R (R kb) = R kb := (h _ lb).2.2.2.2.1 fb
  generalize R ka = x at *
  generalize R kb = y at *
  have hyx : ¬ y = x := fun q => hne q.symm
  intro i hi
  obtain ⟨a1, a2, a3, a4, a5, a6⟩ := h i hi
  unfold own_upd own_R
  refine ⟨?_, ?_, ?_, ?_, ?_, ?_⟩
  · split
    · exact lb
    · exact a1
  · split
    · exact lb
    · exact a2
  · by_cases q : R i = x
    · rw [if_pos q, if_neg hyx]; exact fb
    · rw [if_neg q, if_neg q]; exact a3
  · by_cases q : i = x
    · rw [if_pos q, q, ra, if_pos rfl, rb, if_neg hyx]
    · rw [if_neg q, a4]
  · by_cases q : i = x
    · rw [if_pos q]; intro e; exact absurd (e.trans q) hyx
    · rw [if_neg q]; intro e
      have := a5 e
      rw [if_neg (by rw [this]; exact q)]; exact this
  · by_cases q : i = x
    · rw [if_pos q]; intro _
      show (if R y = x then d y + d y + 1 else d y) < (if R i = x then d i + d y + 1 else d i)
      rw [rb, if_neg hyx, q, ra, if_pos rfl]; omega
    · rw [if_neg q]; intro e
      have := a6 e
      show (if R (f i) = x then d (f i) + d y + 1 else d (f i)) < (if R i = x then d i + d y + 1 else d i)
      rw [a4]; split <;> omega
theorem own_RL {n : Nat} {R : Nat → Nat} {g : Nat → Int32} (h : ∀ i, i < n → ∀ j, j < n → (R i = R j ↔ g i = g j)) {ka kb : Nat} (ha : ka < n) (hb : kb < n) :
    ∀ i, i < n → ∀ j, j < n → (own_R R (R ka) (R kb) i = own_R R (R ka) (R kb) j ↔ own_L g (g ka) (g kb) i = own_L g (g ka) (g kb) j) := by
  intro i hi j hj
  unfold own_R own_L
  by_cases p : R i = R ka <;> by_cases q : R j = R ka
  · rw [if_pos p, if_pos q, if_pos ((h _ hi _ ha).mp p), if_pos ((h _ hj _ ha).mp q)]; simp
  · rw [if_pos p, if_neg q, if_pos ((h _ hi _ ha).mp p), if_neg (fun z => q ((h _ hj _ ha).mpr z))]; exact h _ hb _ hj
  · rw [if_neg p, if_pos q, if_neg (fun z => p ((h _ hi _ ha).mpr z)), if_pos ((h _ hj _ ha).mp q)]; exact h _ hi _ hb
  · rw [if_neg p, if_neg q, if_neg (fun z => p ((h _ hi _ ha).mpr z)), if_neg (fun z => q ((h _ hj _ ha).mpr z))]; exact h _ hi _ hj
theorem own_lab0 {nn : Nat} (hn : nn ≤ 4) : ∀ i, i < nn → ∀ j, j < nn → ((fun i : Nat => i) i = (fun i : Nat => i) j ↔ own_n i = own_n j) := fun i hi j hj => ⟨fun h => congrArg own_n h, fun h => own_ninj (i := i) (j := j) (by omega) (by omega) h⟩

def own_vl (n : Nat) (g : Nat → Int32) : List Value := (List.range n).map fun i => Value.int (g i)
theorem own_vlen (n : Nat) (g : Nat → Int32) : (own_vl n g).length = n := by simp [own_vl]
theorem own_vget {n : Nat} {g : Nat → Int32} {k : Nat} {d : Value} (hk : k < n) : (own_vl n g).getD k d = .int (g k) := by
  simp [own_vl, List.getD_eq_getElem?_getD, hk]
theorem own_vset (n : Nat) (f : Nat → Nat) (k j : Nat) : (own_vl n fun i => own_n (f i)).set k (.int (own_n j)) = own_vl n fun i => own_n (own_upd f k j i) := by
  apply List.ext_getElem
  · simp [own_vl]
  · intro i h1 h2
    simp only [own_vl, List.getElem_set, List.getElem_map, List.getElem_range, own_upd]
    by_cases q : k = i
    · rw [if_pos q, if_pos q.symm]
    · rw [if_neg q, if_neg (fun z => q z.symm)]
theorem own_inb {cl : Cell} {nn k : Nat} (S : cl.slots.size = (own_n nn).toNatClampNeg) (hn : nn ≤ 4) (hk : k < nn) : ¬ (own_n k < 0 ∨ cl.slots.size ≤ (own_n k).toNatClampNeg) := inb_of S (own_nlt hk hn)
theorem own_at {cl : Cell} {nn k : Nat} {g : Nat → Int32} {d : Value} {v : Int32} (H : Has cl (own_vl nn g) d) (S : cl.slots.size = (own_n nn).toNatClampNeg) (hn : nn ≤ 4) (hk : k < nn) (ev : g k = v) : cl.slots[(own_n k).toNatClampNeg]? = some (.int v) := by
  rw [own_nc (by omega), H k (by rw [S, own_nc hn]; exact hk), own_vget hk, ev]
theorem own_arset {Z : State} {h h' : Heap} {a : Addr} {cl : Cell} {ck : ClassId} {nn k j : Nat} {f : Nat → Nat} {d : Value} (A : Arr Z h a cl .int) (q1 : cl.cls = ck) (S : cl.slots.size = (own_n nn).toNatClampNeg) (q3 : ¬ own_n nn < 0) (H : Has cl (own_vl nn fun i => own_n (f i)) d) (G : ∀ i, i < cl.slots.size → fits .int ((own_vl nn fun i => own_n (f i)).getD i d) = true) (W : Wr h h' a (own_n k).toNatClampNeg (.int (own_n j))) (hn : nn ≤ 4) (hk : k < nn) : Arv Z h' a ck .int (own_n nn) (own_vl nn fun i => own_n (own_upd f k j i)) d := by
  have q := Arv.set A q1 S q3 H G rfl W k (own_nc (by omega)) (by rw [own_vlen]; exact hk)
  rw [own_vset] at q; exact q
theorem own_l4 {Z : State} {h : Heap} {a : Addr} {ck : ClassId} {d : Value} {g : Nat → Int32} {v0 v1 v2 v3 : Int32} (A : Arv Z h a ck .int (4 : Int32) [.int v0, .int v1, .int v2, .int v3] d) (e0 : g 0 = v0) (e1 : g 1 = v1) (e2 : g 2 = v2) (e3 : g 3 = v3) : Arv Z h a ck .int (4 : Int32) (own_vl 4 g) d := by
  subst e0 e1 e2 e3; exact A
theorem own_rem (y : Int32) {nn : Nat} (h1 : 1 ≤ nn) (h4 : nn ≤ 4) : ∃ k, k < nn ∧ ((y &&& (32767 : Int32)) - ((y &&& (32767 : Int32)) / (own_n nn)) * (own_n nn)) = own_n k := by
  have h := c_mask y 32767 15 (by decide) (by decide)
  have e := own_nI h4
  have a1 := Int.emod_nonneg (y &&& 32767).toInt (b := (nn : Int)) (by omega)
  have a2 := Int.emod_lt_of_pos (y &&& 32767).toInt (b := (nn : Int)) (by omega)
  refine ⟨((y &&& 32767).toInt % (nn : Int)).toNat, by omega, ?_⟩
  have hk : ((y &&& 32767).toInt % (nn : Int)).toNat < nn := by omega
  rw [irem_eq_mod, ← Int32.toInt_inj, own_nI (by omega)]
  have q := (c_irem (y &&& 32767) (own_n nn) _ rfl).1 (by rw [h]; omega)
  rw [e] at q
  rw [q]; omega
theorem own_nn (y : Int32) : ∃ nn : Nat, 1 ≤ nn ∧ nn ≤ 4 ∧ (1 : Int32) + (y &&& (3 : Int32)) = own_n nn := by
  have h := c_mask y 3 2 (by decide) (by decide)
  have q : y &&& 3 = 0 ∨ y &&& 3 = 1 ∨ y &&& 3 = 2 ∨ y &&& 3 = 3 := by
    simp only [← Int32.toInt_inj, h, show (0 : Int32).toInt = 0 from rfl, show (1 : Int32).toInt = 1 from rfl, show (2 : Int32).toInt = 2 from rfl, show (3 : Int32).toInt = 3 from rfl]
    omega
  rcases q with q | q | q | q <;> rw [q]
  · exact ⟨1, by omega, by omega, rfl⟩
  · exact ⟨2, by omega, by omega, rfl⟩
  · exact ⟨3, by omega, by omega, rfl⟩
  · exact ⟨4, by omega, by omega, rfl⟩
theorem own_nz {nn : Nat} (h1 : 1 ≤ nn) (h4 : nn ≤ 4) : ¬ own_n nn = 0 := fun q => by
  have := own_ninj h4 (Nat.zero_le 4) q
  omega
abbrev own_U (Z : State) (h : Heap) (pa : Addr) (pk : ClassId) (nn : Nat) (f : Nat → Nat) : Prop := Arv Z h pa pk .int (own_n nn) (own_vl nn fun i => own_n (f i)) (.int (0 : Int32))
abbrev own_B (Z : State) (h : Heap) (la : Addr) (lk : ClassId) (g : Nat → Int32) : Prop := Arv Z h la lk .int (4 : Int32) (own_vl 4 g) (.int (0 : Int32))
theorem d8_0 : decode prog_24_method_3_code 0 = .ok (.aload_n 0, 1) := by decide +kernel
theorem d8_1 : decode prog_24_method_3_code 1 = .ok (.getfield 13, 3) := by decide +kernel
theorem d8_4 : decode prog_24_method_3_code 4 = .ok (.ireturn, 1) := by decide +kernel
theorem pn_Components : plainName "com/example/graftwork/graftwork/generate/Components" = true := by first | (simp [plainName, overriddenIn]; done) | decide +kernel
def QrmCount (Z : State) (a0 : Addr) (cn : Int32) (h0 : Heap) (n0 : Nat) (v : Option Value) (h : Heap) (L : List Loc) : Prop := v = some (.int cn) ∧ Fr n0 L ∧ h = h0
set_option maxRecDepth 65536 in
set_option maxHeartbeats 40000000 in
theorem rmCount (l : Launch) (Z : State) (av0 : Array Value) (hw : ∀ d ∈ tables_1, d.before av0 Z = true) (ws : List Jvm.Cond) (a0 : Addr) (cn : Int32) (h0 : Heap) (n0 : Nat) (Z0 : n0 ≤ h0.size) (hFc : Fld Z h0 a0 "com/example/graftwork/graftwork/generate/Components" "count" "I" (.int cn)) :
    own_Met l mN0 prog_24_method_3_code 1 (some .int) ws ({ frames := 0, cells := 0, slots := 0, locals := 0 } : Room) #[(.ref a0)] Z h0 (QrmCount Z a0 cn h0 n0) := by
  refine MetFree.of_bodySF (plainFor_of_name pn_Components) hisR ?_
  intro p e s m args below meth c s₁ Bd hml0 hP hK
  obtain ⟨rfl, hZ, hh⟩ := hP
  have hml : c.maxLocals = 1 := hml0
  obtain ⟨hx, hby, hown, hnm, X0, e0⟩ := own_start Bd hml0 hh
  have N0 := Fr.nil n0
  have pre0 : ∀ tz, oS p e below s₁ (mkF m 0 #[rv a0] []) tz → Steps p.tables e below (s₁.setTop (entryFrame m #[(.ref a0)] 1)) tz := fun tz kz => castTop (by first | (simp [entryFrame, mkF, argsToLocals, Value.category]; done) | rfl) kz
  obtain ⟨T1, X1, e1, st1⟩ := getF X0 hx hZ hown (host := "") (Or.inl (hw _ (own_w 12 rfl))) Via.refl e0 hFc (g := (mkF m 1 #[rv a0] [(.ref a0)])) rfl rfl (hb hby d8_1)
  have S2 : ∀ tz, oS p e below T1 (mkF m 4 #[rv a0] [(.int cn)]) tz → oS p e below s₁ (mkF m 0 #[rv a0] []) tz := fun tz kz => id (by
    show oS p e below s₁ (mkF m 0 #[rv a0] []) _
    refine XS.aloadN X0.here hx rfl (hb hby d8_0) rfl rfl ?_
    refine st1 _ ?_
    exact kz)
  obtain ⟨fs, hr, hrun, hended, hW, hsame⟩ := X1.leave (v := some (.int cn)) (fun h => by rw [Bd.returns] at h; cases h)
  refine ⟨_, _, pre0 _ (S2 _ ?_), hrun, hended, _, _, rfl, ?_, ⟨_, rfl⟩, hW, hsame.mono (by decide) (by decide)⟩
  · exact retI X1 hx Bd.returns (hb hby d8_4) hr
  · show QrmCount Z a0 cn h0 n0 _ T1.heap _
    rw [e1]
    exact ⟨rfl, N0, rfl⟩
theorem d3_0 : decode method_2_code 0 = .ok (.iload_n 0, 1) := by decide +kernel
theorem d3_1 : decode method_2_code 1 = .ok (.sipush 32767, 3) := by decide +kernel
theorem d3_4 : decode method_2_code 4 = .ok (.iand, 1) := by decide +kernel
theorem d3_5 : decode method_2_code 5 = .ok (.iload_n 1, 1) := by decide +kernel
theorem d3_6 : decode method_2_code 6 = .ok (.irem, 1) := by decide +kernel
theorem d3_7 : decode method_2_code 7 = .ok (.ireturn, 1) := by decide +kernel
theorem pn_ComponentsJoinPinLaw : plainName "com/example/graftwork/graftwork/generate/ComponentsJoinPinLaw" = true := by first | (simp [plainName, overriddenIn]; done) | decide +kernel
def QrmFirst (Z : State) (p0 : Int32) (nn : Nat) (h0 : Heap) (n0 : Nat) (v : Option Value) (h : Heap) (L : List Loc) : Prop := ∃ k, k < nn ∧ v = some (.int (own_n k)) ∧ Fr n0 L ∧ h = h0
set_option maxRecDepth 65536 in
set_option maxHeartbeats 40000000 in
theorem rmFirst (l : Launch) (Z : State) (av0 : Array Value) (hw : ∀ d ∈ tables_1, d.before av0 Z = true) (ws : List Jvm.Cond) (p0 : Int32) (nn : Nat) (h0 : Heap) (n0 : Nat) (Z0 : n0 ≤ h0.size) (h1 : 1 ≤ nn) (hnn : nn ≤ 4) :
    own_Met l mN1 method_2_code 2 (some .int) ws ({ frames := 0, cells := 0, slots := 0, locals := 0 } : Room) #[(.int p0), (.int (own_n nn))] Z h0 (QrmFirst Z p0 nn h0 n0) := by
  refine MetFree.of_bodySF (plainFor_of_name pn_ComponentsJoinPinLaw) hisR ?_
  intro p e s m args below meth c s₁ Bd hml0 hP hK
  obtain ⟨rfl, hZ, hh⟩ := hP
  have hml : c.maxLocals = 2 := hml0
  obtain ⟨hx, hby, hown, hnm, X0, e0⟩ := own_start Bd hml0 hh
  have N0 := Fr.nil n0
  have pre0 : ∀ tz, oS p e below s₁ (mkF m 0 #[iv p0, iv (own_n nn)] []) tz → Steps p.tables e below (s₁.setTop (entryFrame m #[(.int p0), (.int (own_n nn))] 2)) tz := fun tz kz => castTop (by first | (simp [entryFrame, mkF, argsToLocals, Value.category]; done) | rfl) kz
  obtain ⟨kq, qk⟩ := own_rem p0 h1 hnn
  have S1 : ∀ tz, oS p e below s₁ (mkF m 7 #[iv p0, iv (own_n nn)] [(.int ((p0 &&& (32767 : Int32)) - ((p0 &&& (32767 : Int32)) / (own_n nn)) * (own_n nn)))]) tz → oS p e below s₁ (mkF m 0 #[iv p0, iv (own_n nn)] []) tz := fun tz kz => id (by
    show oS p e below s₁ (mkF m 0 #[iv p0, iv (own_n nn)] []) _
    refine XS.iloadN X0.here hx rfl (hb hby d3_0) rfl ?_
    refine XT.sipushV X0.here hx rfl (32767 : Int32) (hb hby d3_1) (by decide) ?_
    refine XS.iand X0.here hx rfl (hb hby d3_4) rfl ?_
    refine XS.iloadN X0.here hx rfl (hb hby d3_5) rfl ?_
    refine XS.irem X0.here hx rfl (hb hby d3_6) rfl (own_nz h1 hnn) ?_
    exact kz)
  obtain ⟨fs, hr, hrun, hended, hW, hsame⟩ := X0.leave (v := some (.int ((p0 &&& (32767 : Int32)) - ((p0 &&& (32767 : Int32)) / (own_n nn)) * (own_n nn)))) (fun h => by rw [Bd.returns] at h; cases h)
  refine ⟨_, _, pre0 _ (S1 _ ?_), hrun, hended, _, _, rfl, ?_, ⟨_, rfl⟩, hW, hsame.mono (by decide) (by decide)⟩
  · exact retI X0 hx Bd.returns (hb hby d3_7) hr
  · show QrmFirst Z p0 nn h0 n0 _ s₁.heap _
    rw [e0]
    exact ⟨_, qk.1, congrArg (fun z => some (Value.int z)) qk.2, N0, rfl⟩
theorem d4_0 : decode method_3_code 0 = .ok (.iload_n 0, 1) := by decide +kernel
theorem d4_1 : decode method_3_code 1 = .ok (.bipush 16, 2) := by decide +kernel
theorem d4_3 : decode method_3_code 3 = .ok (.iushr, 1) := by decide +kernel
theorem d4_4 : decode method_3_code 4 = .ok (.sipush 32767, 3) := by decide +kernel
theorem d4_7 : decode method_3_code 7 = .ok (.iand, 1) := by decide +kernel
theorem d4_8 : decode method_3_code 8 = .ok (.iload_n 1, 1) := by decide +kernel
theorem d4_9 : decode method_3_code 9 = .ok (.irem, 1) := by decide +kernel
theorem d4_10 : decode method_3_code 10 = .ok (.ireturn, 1) := by decide +kernel
def QrmSecond (Z : State) (p0 : Int32) (nn : Nat) (h0 : Heap) (n0 : Nat) (v : Option Value) (h : Heap) (L : List Loc) : Prop := ∃ k, k < nn ∧ v = some (.int (own_n k)) ∧ Fr n0 L ∧ h = h0
set_option maxRecDepth 65536 in
set_option maxHeartbeats 40000000 in
theorem rmSecond (l : Launch) (Z : State) (av0 : Array Value) (hw : ∀ d ∈ tables_1, d.before av0 Z = true) (ws : List Jvm.Cond) (p0 : Int32) (nn : Nat) (h0 : Heap) (n0 : Nat) (Z0 : n0 ≤ h0.size) (h1 : 1 ≤ nn) (hnn : nn ≤ 4) :
    own_Met l mN2 method_3_code 2 (some .int) ws ({ frames := 0, cells := 0, slots := 0, locals := 0 } : Room) #[(.int p0), (.int (own_n nn))] Z h0 (QrmSecond Z p0 nn h0 n0) := by
  refine MetFree.of_bodySF (plainFor_of_name pn_ComponentsJoinPinLaw) hisR ?_
  intro p e s m args below meth c s₁ Bd hml0 hP hK
  obtain ⟨rfl, hZ, hh⟩ := hP
  have hml : c.maxLocals = 2 := hml0
  obtain ⟨hx, hby, hown, hnm, X0, e0⟩ := own_start Bd hml0 hh
  have N0 := Fr.nil n0
  have pre0 : ∀ tz, oS p e below s₁ (mkF m 0 #[iv p0, iv (own_n nn)] []) tz → Steps p.tables e below (s₁.setTop (entryFrame m #[(.int p0), (.int (own_n nn))] 2)) tz := fun tz kz => castTop (by first | (simp [entryFrame, mkF, argsToLocals, Value.category]; done) | rfl) kz
  obtain ⟨kq, qk⟩ := own_rem (XT.ushr p0 (16 : Int32)) h1 hnn
  have S1 : ∀ tz, oS p e below s₁ (mkF m 10 #[iv p0, iv (own_n nn)] [(.int (((XT.ushr p0 (16 : Int32)) &&& (32767 : Int32)) - (((XT.ushr p0 (16 : Int32)) &&& (32767 : Int32)) / (own_n nn)) * (own_n nn)))]) tz → oS p e below s₁ (mkF m 0 #[iv p0, iv (own_n nn)] []) tz := fun tz kz => id (by
    show oS p e below s₁ (mkF m 0 #[iv p0, iv (own_n nn)] []) _
    refine XS.iloadN X0.here hx rfl (hb hby d4_0) rfl ?_
    refine XT.bipushV X0.here hx rfl (16 : Int32) (hb hby d4_1) (by decide) ?_
    refine XT.iushr X0.here hx rfl (hb hby d4_3) rfl ?_
    refine XT.sipushV X0.here hx rfl (32767 : Int32) (hb hby d4_4) (by decide) ?_
    refine XS.iand X0.here hx rfl (hb hby d4_7) rfl ?_
    refine XS.iloadN X0.here hx rfl (hb hby d4_8) rfl ?_
    refine XS.irem X0.here hx rfl (hb hby d4_9) rfl (own_nz h1 hnn) ?_
    exact kz)
  obtain ⟨fs, hr, hrun, hended, hW, hsame⟩ := X0.leave (v := some (.int (((XT.ushr p0 (16 : Int32)) &&& (32767 : Int32)) - (((XT.ushr p0 (16 : Int32)) &&& (32767 : Int32)) / (own_n nn)) * (own_n nn)))) (fun h => by rw [Bd.returns] at h; cases h)
  refine ⟨_, _, pre0 _ (S1 _ ?_), hrun, hended, _, _, rfl, ?_, ⟨_, rfl⟩, hW, hsame.mono (by decide) (by decide)⟩
  · exact retI X0 hx Bd.returns (hb hby d4_10) hr
  · show QrmSecond Z p0 nn h0 n0 _ s₁.heap _
    rw [e0]
    exact ⟨_, qk.1, congrArg (fun z => some (Value.int z)) qk.2, N0, rfl⟩
theorem d6_2 : decode prog_24_method_4_code 2 = .ok (.aload_n 0, 1) := by decide +kernel
theorem d6_3 : decode prog_24_method_4_code 3 = .ok (.getfield 7, 3) := by decide +kernel
theorem d6_6 : decode prog_24_method_4_code 6 = .ok (.iload_n 2, 1) := by decide +kernel
theorem d6_7 : decode prog_24_method_4_code 7 = .ok (.iaload, 1) := by decide +kernel
theorem d6_8 : decode prog_24_method_4_code 8 = .ok (.iload_n 2, 1) := by decide +kernel
theorem d6_9 : decode prog_24_method_4_code 9 = .ok (.if_icmp .eq 30, 3) := by decide +kernel
theorem d6_12 : decode prog_24_method_4_code 12 = .ok (.aload_n 0, 1) := by decide +kernel
theorem d6_13 : decode prog_24_method_4_code 13 = .ok (.getfield 7, 3) := by decide +kernel
theorem d6_16 : decode prog_24_method_4_code 16 = .ok (.iload_n 2, 1) := by decide +kernel
theorem d6_17 : decode prog_24_method_4_code 17 = .ok (.aload_n 0, 1) := by decide +kernel
theorem d6_18 : decode prog_24_method_4_code 18 = .ok (.getfield 7, 3) := by decide +kernel
theorem d6_21 : decode prog_24_method_4_code 21 = .ok (.aload_n 0, 1) := by decide +kernel
theorem d6_22 : decode prog_24_method_4_code 22 = .ok (.getfield 7, 3) := by decide +kernel
theorem d6_25 : decode prog_24_method_4_code 25 = .ok (.iload_n 2, 1) := by decide +kernel
theorem d6_26 : decode prog_24_method_4_code 26 = .ok (.iaload, 1) := by decide +kernel
theorem d6_27 : decode prog_24_method_4_code 27 = .ok (.iaload, 1) := by decide +kernel
theorem d6_28 : decode prog_24_method_4_code 28 = .ok (.iastore, 1) := by decide +kernel
theorem d6_29 : decode prog_24_method_4_code 29 = .ok (.aload_n 0, 1) := by decide +kernel
theorem d6_30 : decode prog_24_method_4_code 30 = .ok (.getfield 7, 3) := by decide +kernel
theorem d6_33 : decode prog_24_method_4_code 33 = .ok (.iload_n 2, 1) := by decide +kernel
theorem d6_34 : decode prog_24_method_4_code 34 = .ok (.iaload, 1) := by decide +kernel
theorem d6_35 : decode prog_24_method_4_code 35 = .ok (.istore_n 2, 1) := by decide +kernel
theorem d6_36 : decode prog_24_method_4_code 36 = .ok (.goto (-34), 3) := by decide +kernel
set_option maxRecDepth 65536 in
set_option maxHeartbeats 40000000 in
theorem own_turn {p : Program} {l : Launch} {e : Env} {R : Room} {cells slots : Nat} {s : State} {m : MethodId} {args : Array Value} {below : List Frame} {meth : Method} {c : Code} {T0 : State} {locs : List Loc} {Z : State} {av0 : Array Value} {h0 : Heap} {n0 : Nat} (a0 : Addr) (pa : Addr) (pk : ClassId) (nn : Nat) (f : Nat → Nat) (Rr : Nat → Nat) (d : Nat → Nat) (kk : Nat) (p1 : Int32) (X0 : Stand p l e R s m args below meth c T0 locs cells slots) (hx : p.tables.exec = Jvm.exec) (hZ : Z.Warmed39 s.vm) (hw : ∀ d ∈ tables_1, d.before av0 Z = true) (hby : c.code = prog_24_method_4_code) (hml : c.maxLocals = 3) (hown : s.vm.findClass mN3.cls = some m.cls) (e0 : T0.heap = h0) (N0 : Fr n0 locs) (Z0 : n0 ≤ h0.size) (hnn : nn ≤ 4) (hFp : Fld Z h0 a0 "com/example/graftwork/graftwork/generate/Components" "parent" "[I" (.ref pa)) (hAr : own_U Z h0 pa pk nn f) (hI : own_Inv nn f Rr d) (hk : kk < nn) (hgp : n0 ≤ pa) (hne : a0 ≠ pa) (hfk : ¬ f kk = kk) :
    ∃ (T' : State) (h' : Heap) (locs' : List Loc), Stand p l e R s m args below meth c T' locs' cells slots ∧ T'.heap = h' ∧ Fr n0 locs' ∧ Keep h0 h' [pa] ∧ own_U Z h' pa pk nn (own_upd f kk (f (f kk))) ∧ ∀ tz, oS p e below T' (mkF m 2 #[rv a0, iv p1, iv ((own_n (f (f kk))))] []) tz → oS p e below T0 (mkF m 2 #[rv a0, iv p1, iv (own_n kk)] []) tz := by
  obtain ⟨T1, X1, e1, st1⟩ := getF X0 hx hZ hown (host := "") (Or.inl (hw _ (own_w 10 rfl))) Via.refl e0 hFp (g := (mkF m 3 #[rv a0, iv p1, iv (own_n kk)] [(.ref a0)])) rfl rfl (hb hby d6_3)
  obtain ⟨cl2, Ar2, qk2, Sz2, Ng2, Hs2, Gs2⟩ := id hAr
  have hin2 : ¬ ((own_n kk) < 0 ∨ cl2.slots.size ≤ ((own_n kk)).toNatClampNeg) := own_inb Sz2 hnn hk
  have hat2 : cl2.slots[((own_n kk)).toNatClampNeg]? = some (.int (own_n (f kk))) := own_at (g := (fun i => own_n (f i))) Hs2 Sz2 hnn hk rfl
  obtain ⟨T3, X3, e3, st3⟩ := getF X1 hx hZ hown (host := "") (Or.inl (hw _ (own_w 10 rfl))) Via.refl e1 hFp (g := (mkF m 13 #[rv a0, iv p1, iv (own_n kk)] [(.ref a0)])) rfl rfl (hb hby d6_13)
  obtain ⟨T4, X4, e4, st4⟩ := getF X3 hx hZ hown (host := "") (Or.inl (hw _ (own_w 10 rfl))) Via.refl e3 hFp (g := (mkF m 18 #[rv a0, iv p1, iv (own_n kk)] [(.ref a0), (.int (own_n kk)), (.ref pa)])) rfl rfl (hb hby d6_18)
  obtain ⟨T5, X5, e5, st5⟩ := getF X4 hx hZ hown (host := "") (Or.inl (hw _ (own_w 10 rfl))) Via.refl e4 hFp (g := (mkF m 22 #[rv a0, iv p1, iv (own_n kk)] [(.ref a0), (.ref pa), (.int (own_n kk)), (.ref pa)])) rfl rfl (hb hby d6_22)
  obtain ⟨cl6, Ar6, qk6, Sz6, Ng6, Hs6, Gs6⟩ := id hAr
  have hin6 : ¬ ((own_n kk) < 0 ∨ cl6.slots.size ≤ ((own_n kk)).toNatClampNeg) := own_inb Sz6 hnn hk
  have hat6 : cl6.slots[((own_n kk)).toNatClampNeg]? = some (.int (own_n (f kk))) := own_at (g := (fun i => own_n (f i))) Hs6 Sz6 hnn hk rfl
  obtain ⟨cl7, Ar7, qk7, Sz7, Ng7, Hs7, Gs7⟩ := id hAr
  have hin7 : ¬ ((own_n (f kk)) < 0 ∨ cl7.slots.size ≤ ((own_n (f kk))).toNatClampNeg) := own_inb Sz7 hnn (hI kk hk).1
  have hat7 : cl7.slots[((own_n (f kk))).toNatClampNeg]? = some (.int (own_n (f (f kk)))) := own_at (g := (fun i => own_n (f i))) Hs7 Sz7 hnn (hI kk hk).1 rfl
  obtain ⟨cl8, Ar8, qk8, Sz8, Ng8, Hs8, Gs8⟩ := id hAr
  have hin8 : ¬ ((own_n kk) < 0 ∨ cl8.slots.size ≤ ((own_n kk)).toNatClampNeg) := own_inb Sz8 hnn hk
  obtain ⟨T9, h9, X9, e9, W9, st9⟩ := stI X5 hx hZ e5 Ar8 (j := (own_n kk)) hin8 (g := (mkF m 28 #[rv a0, iv p1, iv (own_n kk)] [(.int (own_n (f (f kk)))), (.int (own_n kk)), (.ref pa)])) rfl rfl (hb hby d6_28)
  have N9 := Fr.snoc X9 N0 hgp
  have Z9 : n0 ≤ h9.size := Nat.le_trans Z0 (Nat.le_of_eq W9.size.symm)
  have K9 : Keep h0 h9 [pa] := (Keep.refl h0 [pa]).wr W9 (Or.inl (List.mem_of_getElem? (i := 0) rfl))
  have V9 : own_U Z h9 pa pk nn (own_upd f kk (f (f kk))) := own_arset (f := f) Ar8 qk8 Sz8 Ng8 Hs8 Gs8 W9 hnn hk
  have f10 := (hFp.other W9 (Or.inl hne))
  obtain ⟨T11, X11, e11, st11⟩ := getF X9 hx hZ hown (host := "") (Or.inl (hw _ (own_w 10 rfl))) Via.refl e9 f10 (g := (mkF m 30 #[rv a0, iv p1, iv (own_n kk)] [(.ref a0)])) rfl rfl (hb hby d6_30)
  obtain ⟨cl12, Ar12, qk12, Sz12, Ng12, Hs12, Gs12⟩ := id V9
  have hin12 : ¬ ((own_n kk) < 0 ∨ cl12.slots.size ≤ ((own_n kk)).toNatClampNeg) := own_inb Sz12 hnn hk
  have hat12 : cl12.slots[((own_n kk)).toNatClampNeg]? = some (.int (own_n (f (f kk)))) := own_at (g := (fun i => own_n ((own_upd f kk (f (f kk))) i))) Hs12 Sz12 hnn hk (congrArg own_n (if_pos rfl))
  have S13 : ∀ tz, oS p e below T11 (mkF m 2 #[rv a0, iv p1, iv ((own_n (f (f kk))))] []) tz → oS p e below T0 (mkF m 2 #[rv a0, iv p1, iv (own_n kk)] []) tz := fun tz kz => id (by
    show oS p e below T0 (mkF m 2 #[rv a0, iv p1, iv (own_n kk)] []) _
    refine XS.aloadN X0.here hx rfl (hb hby d6_2) rfl rfl ?_
    refine st1 _ ?_
    refine XS.iloadN X1.here hx rfl (hb hby d6_6) rfl ?_
    refine X1.iaload hx (j := (own_n kk)) (v := (.int (own_n (f kk)))) (by rw [e1]; exact Ar2.1) (State.isArrayOf_alike hZ.alike Ar2.2.1) Ar2.2.2 hin2 hat2 (g := (mkF m 7 #[rv a0, iv p1, iv (own_n kk)] [(.int (own_n kk)), (.ref pa)])) rfl rfl (hb hby d6_7) _ ?_
    refine XS.iloadN X1.here hx rfl (hb hby d6_8) rfl ?_
    refine XS.icmpNo X1.here hx rfl (hb hby d6_9) rfl (XT.ii_eq_f (fun q => hfk (own_ninj (Nat.le_of_lt (Nat.lt_of_lt_of_le (hI kk hk).1 hnn)) (Nat.le_of_lt (Nat.lt_of_lt_of_le hk hnn)) q))) ?_
    refine XS.aloadN X1.here hx rfl (hb hby d6_12) rfl rfl ?_
    refine st3 _ ?_
    show oS p e below T3 (mkF m 16 #[rv a0, iv p1, iv (own_n kk)] [(.ref pa)]) _
    refine XS.iloadN X3.here hx rfl (hb hby d6_16) rfl ?_
    refine XS.aloadN X3.here hx rfl (hb hby d6_17) rfl rfl ?_
    refine st4 _ ?_
    refine XS.aloadN X4.here hx rfl (hb hby d6_21) rfl rfl ?_
    refine st5 _ ?_
    refine XS.iloadN X5.here hx rfl (hb hby d6_25) rfl ?_
    refine X5.iaload hx (j := (own_n kk)) (v := (.int (own_n (f kk)))) (by rw [e5]; exact Ar6.1) (State.isArrayOf_alike hZ.alike Ar6.2.1) Ar6.2.2 hin6 hat6 (g := (mkF m 26 #[rv a0, iv p1, iv (own_n kk)] [(.int (own_n kk)), (.ref pa), (.ref pa), (.int (own_n kk)), (.ref pa)])) rfl rfl (hb hby d6_26) _ ?_
    refine X5.iaload hx (j := (own_n (f kk))) (v := (.int (own_n (f (f kk))))) (by rw [e5]; exact Ar7.1) (State.isArrayOf_alike hZ.alike Ar7.2.1) Ar7.2.2 hin7 hat7 (g := (mkF m 27 #[rv a0, iv p1, iv (own_n kk)] [(.int (own_n (f kk))), (.ref pa), (.int (own_n kk)), (.ref pa)])) rfl rfl (hb hby d6_27) _ ?_
    show oS p e below T5 (mkF m 28 #[rv a0, iv p1, iv (own_n kk)] [(.int (own_n (f (f kk)))), (.int (own_n kk)), (.ref pa)]) _
    refine st9 _ ?_
    refine XS.aloadN X9.here hx rfl (hb hby d6_29) rfl rfl ?_
    refine st11 _ ?_
    refine XS.iloadN X11.here hx rfl (hb hby d6_33) rfl ?_
    refine X11.iaload hx (j := (own_n kk)) (v := (.int (own_n (f (f kk))))) (by rw [e11]; exact Ar12.1) (State.isArrayOf_alike hZ.alike Ar12.2.1) Ar12.2.2 hin12 hat12 (g := (mkF m 34 #[rv a0, iv p1, iv (own_n kk)] [(.int (own_n kk)), (.ref pa)])) rfl rfl (hb hby d6_34) _ ?_
    refine XS.istoreN X11.here hx rfl (hb hby d6_35) rfl (l' := #[rv a0, iv p1, iv ((own_n (f (f kk))))]) rfl ?_
    refine XS.goto X11.here hx rfl (pc0 := 36) (pc' := 2) rfl (hb hby d6_36) (by decide) (by decide) ?_
    exact kz)
  exact ⟨T11, _, _, X11, e11, N9, K9, V9, fun tz kz => S13 tz kz⟩
set_option maxRecDepth 65536 in
set_option maxHeartbeats 40000000 in
theorem own_leave {p : Program} {l : Launch} {e : Env} {R : Room} {cells slots : Nat} {s : State} {m : MethodId} {args : Array Value} {below : List Frame} {meth : Method} {c : Code} {T0 : State} {locs : List Loc} {Z : State} {av0 : Array Value} {h0 : Heap} {n0 : Nat} (a0 : Addr) (pa : Addr) (pk : ClassId) (nn : Nat) (f : Nat → Nat) (Rr : Nat → Nat) (d : Nat → Nat) (kk : Nat) (p1 : Int32) (X0 : Stand p l e R s m args below meth c T0 locs cells slots) (hx : p.tables.exec = Jvm.exec) (hZ : Z.Warmed39 s.vm) (hw : ∀ d ∈ tables_1, d.before av0 Z = true) (hby : c.code = prog_24_method_4_code) (hml : c.maxLocals = 3) (hown : s.vm.findClass mN3.cls = some m.cls) (e0 : T0.heap = h0) (N0 : Fr n0 locs) (Z0 : n0 ≤ h0.size) (hnn : nn ≤ 4) (hFp : Fld Z h0 a0 "com/example/graftwork/graftwork/generate/Components" "parent" "[I" (.ref pa)) (hAr : own_U Z h0 pa pk nn f) (hI : own_Inv nn f Rr d) (hk : kk < nn) (hgp : n0 ≤ pa) (hne : a0 ≠ pa) (hfk : f kk = kk) :
    ∃ (T' : State) (h' : Heap) (locs' : List Loc), Stand p l e R s m args below meth c T' locs' cells slots ∧ T'.heap = h' ∧ Fr n0 locs' ∧ h' = h0 ∧ ∀ tz, oS p e below T' (mkF m 39 #[rv a0, iv p1, iv (own_n kk)] []) tz → oS p e below T0 (mkF m 2 #[rv a0, iv p1, iv (own_n kk)] []) tz := by
  obtain ⟨T1, X1, e1, st1⟩ := getF X0 hx hZ hown (host := "") (Or.inl (hw _ (own_w 10 rfl))) Via.refl e0 hFp (g := (mkF m 3 #[rv a0, iv p1, iv (own_n kk)] [(.ref a0)])) rfl rfl (hb hby d6_3)
  obtain ⟨cl2, Ar2, qk2, Sz2, Ng2, Hs2, Gs2⟩ := id hAr
  have hin2 : ¬ ((own_n kk) < 0 ∨ cl2.slots.size ≤ ((own_n kk)).toNatClampNeg) := own_inb Sz2 hnn hk
  have hat2 : cl2.slots[((own_n kk)).toNatClampNeg]? = some (.int (own_n (f kk))) := own_at (g := (fun i => own_n (f i))) Hs2 Sz2 hnn hk rfl
  have S3 : ∀ tz, oS p e below T1 (mkF m 39 #[rv a0, iv p1, iv (own_n kk)] []) tz → oS p e below T0 (mkF m 2 #[rv a0, iv p1, iv (own_n kk)] []) tz := fun tz kz => id (by
    show oS p e below T0 (mkF m 2 #[rv a0, iv p1, iv (own_n kk)] []) _
    refine XS.aloadN X0.here hx rfl (hb hby d6_2) rfl rfl ?_
    refine st1 _ ?_
    refine XS.iloadN X1.here hx rfl (hb hby d6_6) rfl ?_
    refine X1.iaload hx (j := (own_n kk)) (v := (.int (own_n (f kk)))) (by rw [e1]; exact Ar2.1) (State.isArrayOf_alike hZ.alike Ar2.2.1) Ar2.2.2 hin2 hat2 (g := (mkF m 7 #[rv a0, iv p1, iv (own_n kk)] [(.int (own_n kk)), (.ref pa)])) rfl rfl (hb hby d6_7) _ ?_
    refine XS.iloadN X1.here hx rfl (hb hby d6_8) rfl ?_
    refine XS.icmpYes X1.here hx rfl (pc0 := 9) (pc' := 39) rfl (hb hby d6_9) rfl (XT.ii_eq_t (congrArg own_n hfk)) (by decide) (by decide) ?_
    exact kz)
  exact ⟨T1, _, _, X1, e1, N0, rfl, fun tz kz => S3 tz kz⟩
set_option maxHeartbeats 40000000 in
theorem own_loop {p : Program} {l : Launch} {e : Env} {R : Room} {s : State} {m : MethodId} {args : Array Value} {below : List Frame} {meth : Method} {c : Code} {cells slots : Nat} {Z : State} {av0 : Array Value} {n0 : Nat} (a0 pa : Addr) (pk : ClassId) (nn : Nat) (Rr d : Nat → Nat) (p1 : Int32)
    (hx : p.tables.exec = Jvm.exec) (hZ : Z.Warmed39 s.vm) (hw : ∀ d ∈ tables_1, d.before av0 Z = true) (hby : c.code = prog_24_method_4_code) (hml : c.maxLocals = 3) (hown : s.vm.findClass mN3.cls = some m.cls) (hnn : nn ≤ 4) (hgp : n0 ≤ pa) (hne : a0 ≠ pa) :
    ∀ (dd : Nat) (f : Nat → Nat) (kk : Nat) (T0 : State) (locs : List Loc) (h0 : Heap), d kk < dd → Stand p l e R s m args below meth c T0 locs cells slots → T0.heap = h0 → Fr n0 locs → n0 ≤ h0.size → Fld Z h0 a0 "com/example/graftwork/graftwork/generate/Components" "parent" "[I" (.ref pa) → own_U Z h0 pa pk nn f → own_Inv nn f Rr d → kk < nn →
    ∃ (T' : State) (h' : Heap) (locs' : List Loc) (f' : Nat → Nat), Stand p l e R s m args below meth c T' locs' cells slots ∧ T'.heap = h' ∧ Fr n0 locs' ∧ Keep h0 h' [pa] ∧ own_U Z h' pa pk nn f' ∧ own_Inv nn f' Rr d ∧ ∀ t, oS p e below T' (mkF m 39 #[rv a0, iv p1, iv (own_n (Rr kk))] []) t → oS p e below T0 (mkF m 2 #[rv a0, iv p1, iv (own_n kk)] []) t := by
  intro dd
  induction dd with
  | zero => intro f kk T0 locs h0 hd; exact absurd hd (Nat.not_lt_zero _)
  | succ dd ih =>
    intro f kk T0 locs h0 hd X0 e0 N0 Z0 hFp hAr hI hk
    by_cases hfk : f kk = kk
    · obtain ⟨T1, h1, l1, X1, e1, N1, rfl, S1⟩ := own_leave a0 pa pk nn f Rr d kk p1 X0 hx hZ hw hby hml hown e0 N0 Z0 hnn hFp hAr hI hk hgp hne hfk
      have hR : Rr kk = kk := (hI kk hk).2.2.2.2.1 hfk
      rw [hR]
      exact ⟨T1, _, l1, f, X1, e1, N1, Keep.refl _ _, hAr, hI, S1⟩
    · obtain ⟨T1, h1, l1, X1, e1, N1, K1, A1, S1⟩ := own_turn a0 pa pk nn f Rr d kk p1 X0 hx hZ hw hby hml hown e0 N0 Z0 hnn hFp hAr hI hk hgp hne hfk
      have hb := (hI kk hk).1
      have hd' := own_Invd hI hk hfk
      obtain ⟨T2, h2, l2, f2, X2, e2, N2, K2, A2, I2, S2⟩ := ih (own_upd f kk (f (f kk))) (f (f kk)) T1 l1 h1 (by omega) X1 e1 N1 (Nat.le_trans Z0 K1.1) (hFp.keep K1 (ninS hne nin0)) A1 (own_Invh hI hk hfk) (hI _ hb).1
      have hR : Rr (f (f kk)) = Rr kk := by rw [(hI _ hb).2.2.2.1, (hI kk hk).2.2.2.1]
      rw [hR] at S2
      exact ⟨T2, h2, l2, f2, X2, e2, N2, K1.trans K2 (fun x hx => Or.inl hx), A2, I2, fun t k => S1 t (S2 t k)⟩
theorem d6_0 : decode prog_24_method_4_code 0 = .ok (.iload_n 1, 1) := by decide +kernel
theorem d6_1 : decode prog_24_method_4_code 1 = .ok (.istore_n 2, 1) := by decide +kernel
theorem d6_39 : decode prog_24_method_4_code 39 = .ok (.iload_n 2, 1) := by decide +kernel
theorem d6_40 : decode prog_24_method_4_code 40 = .ok (.ireturn, 1) := by decide +kernel
def QrmRoot (Z : State) (a0 : Addr) (pa : Addr) (pk : ClassId) (nn : Nat) (f : Nat → Nat) (Rr : Nat → Nat) (d : Nat → Nat) (kk : Nat) (h0 : Heap) (n0 : Nat) (v : Option Value) (h : Heap) (L : List Loc) : Prop := ∃ f', v = some (.int (own_n (Rr kk))) ∧ Fr n0 L ∧ Keep h0 h [pa] ∧ own_U Z h pa pk nn f' ∧ own_Inv nn f' Rr d
set_option maxRecDepth 65536 in
set_option maxHeartbeats 40000000 in
theorem rmRoot (l : Launch) (Z : State) (av0 : Array Value) (hw : ∀ d ∈ tables_1, d.before av0 Z = true) (ws : List Jvm.Cond) (a0 : Addr) (pa : Addr) (pk : ClassId) (nn : Nat) (f : Nat → Nat) (Rr : Nat → Nat) (d : Nat → Nat) (kk : Nat) (h0 : Heap) (n0 : Nat) (Z0 : n0 ≤ h0.size) (hnn : nn ≤ 4) (hFp : Fld Z h0 a0 "com/example/graftwork/graftwork/generate/Components" "parent" "[I" (.ref pa)) (hAr : own_U Z h0 pa pk nn f) (hI : own_Inv nn f Rr d) (hk : kk < nn) (hgp : n0 ≤ pa) (hne : a0 ≠ pa) :
    own_Met l mN3 prog_24_method_4_code 3 (some .int) ws ({ frames := 0, cells := 0, slots := 0, locals := 0 } : Room) #[(.ref a0), (.int (own_n kk))] Z h0 (QrmRoot Z a0 pa pk nn f Rr d kk h0 n0) := by
  refine MetFree.of_bodySF (plainFor_of_name pn_Components) hisR ?_
  intro p e s m args below meth c s₁ Bd hml0 hP hK
  obtain ⟨rfl, hZ, hh⟩ := hP
  have hml : c.maxLocals = 3 := hml0
  obtain ⟨hx, hby, hown, hnm, X0, e0⟩ := own_start Bd hml0 hh
  have N0 := Fr.nil n0
  have pre0 : ∀ tz, oS p e below s₁ (mkF m 0 #[rv a0, iv (own_n kk), .unset] []) tz → Steps p.tables e below (s₁.setTop (entryFrame m #[(.ref a0), (.int (own_n kk))] 3)) tz := fun tz kz => castTop (by first | (simp [entryFrame, mkF, argsToLocals, Value.category]; done) | rfl) kz
  have S1 : ∀ tz, oS p e below s₁ (mkF m 2 #[rv a0, iv (own_n kk), iv (own_n kk)] []) tz → oS p e below s₁ (mkF m 0 #[rv a0, iv (own_n kk), .unset] []) tz := fun tz kz => id (by
    show oS p e below s₁ (mkF m 0 #[rv a0, iv (own_n kk), .unset] []) _
    refine XS.iloadN X0.here hx rfl (hb hby d6_0) rfl ?_
    refine XS.istoreN X0.here hx rfl (hb hby d6_1) rfl (l' := #[rv a0, iv (own_n kk), iv (own_n kk)]) rfl ?_
    exact kz)
  obtain ⟨T2, h2, l2, f2', X2, e2, N2, K2, A2, I2, st2⟩ := own_loop a0 pa pk nn Rr d (own_n kk) hx hZ hw hby hml hown hnn hgp hne (d kk + 1) f kk s₁ _ _ (Nat.lt_succ_self _) X0 e0 N0 Z0 hFp hAr hI hk
  have S3 : ∀ tz, oS p e below T2 (mkF m 40 #[rv a0, iv (own_n kk), iv ((own_n (Rr kk)))] [(.int (own_n (Rr kk)))]) tz → oS p e below s₁ (mkF m 0 #[rv a0, iv (own_n kk), .unset] []) tz := fun tz kz => S1 tz (by
    show oS p e below s₁ (mkF m 2 #[rv a0, iv (own_n kk), iv (own_n kk)] []) _
    refine st2 _ ?_
    show oS p e below T2 (mkF m 39 #[rv a0, iv (own_n kk), iv ((own_n (Rr kk)))] []) _
    refine XS.iloadN X2.here hx rfl (hb hby d6_39) rfl ?_
    exact kz)
  obtain ⟨fs, hr, hrun, hended, hW, hsame⟩ := X2.leave (v := some (.int (own_n (Rr kk)))) (fun h => by rw [Bd.returns] at h; cases h)
  refine ⟨_, _, pre0 _ (S3 _ ?_), hrun, hended, _, _, rfl, ?_, ⟨_, rfl⟩, hW, hsame.mono (by decide) (by decide)⟩
  · exact retI X2 hx Bd.returns (hb hby d6_40) hr
  · show QrmRoot Z a0 pa pk nn f Rr d kk h0 n0 _ T2.heap _
    rw [e2]
    exact ⟨f2', rfl, N2, K2, A2, I2⟩
theorem d5_0 : decode prog_24_method_2_code 0 = .ok (.aload_n 0, 1) := by decide +kernel
theorem d5_1 : decode prog_24_method_2_code 1 = .ok (.iload_n 1, 1) := by decide +kernel
theorem d5_2 : decode prog_24_method_2_code 2 = .ok (.invokevirtual 17, 3) := by decide +kernel
theorem d5_5 : decode prog_24_method_2_code 5 = .ok (.istore_n 3, 1) := by decide +kernel
theorem d5_6 : decode prog_24_method_2_code 6 = .ok (.aload_n 0, 1) := by decide +kernel
theorem d5_7 : decode prog_24_method_2_code 7 = .ok (.iload_n 2, 1) := by decide +kernel
theorem d5_8 : decode prog_24_method_2_code 8 = .ok (.invokevirtual 17, 3) := by decide +kernel
theorem d5_11 : decode prog_24_method_2_code 11 = .ok (.istore 4, 2) := by decide +kernel
theorem d5_13 : decode prog_24_method_2_code 13 = .ok (.iload_n 3, 1) := by decide +kernel
theorem d5_14 : decode prog_24_method_2_code 14 = .ok (.iload 4, 2) := by decide +kernel
theorem d5_16 : decode prog_24_method_2_code 16 = .ok (.if_icmp .ne 5, 3) := by decide +kernel
theorem d5_19 : decode prog_24_method_2_code 19 = .ok (.iconst 0, 1) := by decide +kernel
theorem d5_20 : decode prog_24_method_2_code 20 = .ok (.ireturn, 1) := by decide +kernel
theorem d5_21 : decode prog_24_method_2_code 21 = .ok (.aload_n 0, 1) := by decide +kernel
theorem d5_22 : decode prog_24_method_2_code 22 = .ok (.getfield 7, 3) := by decide +kernel
theorem d5_25 : decode prog_24_method_2_code 25 = .ok (.iload_n 3, 1) := by decide +kernel
theorem d5_26 : decode prog_24_method_2_code 26 = .ok (.iload 4, 2) := by decide +kernel
theorem d5_28 : decode prog_24_method_2_code 28 = .ok (.iastore, 1) := by decide +kernel
theorem d5_29 : decode prog_24_method_2_code 29 = .ok (.aload_n 0, 1) := by decide +kernel
theorem d5_30 : decode prog_24_method_2_code 30 = .ok (.dup, 1) := by decide +kernel
theorem d5_31 : decode prog_24_method_2_code 31 = .ok (.getfield 13, 3) := by decide +kernel
theorem d5_34 : decode prog_24_method_2_code 34 = .ok (.iconst 1, 1) := by decide +kernel
theorem d5_35 : decode prog_24_method_2_code 35 = .ok (.isub, 1) := by decide +kernel
theorem d5_36 : decode prog_24_method_2_code 36 = .ok (.putfield 13, 3) := by decide +kernel
theorem d5_39 : decode prog_24_method_2_code 39 = .ok (.iconst 1, 1) := by decide +kernel
theorem d5_40 : decode prog_24_method_2_code 40 = .ok (.ireturn, 1) := by decide +kernel
theorem pd__I_I : parseMethodDescriptor "(I)I" = some ⟨[.int], some .int⟩ := by decide +kernel
def QrmJoin (Z : State) (a0 : Addr) (pa : Addr) (pk : ClassId) (nn : Nat) (f : Nat → Nat) (Rr : Nat → Nat) (d : Nat → Nat) (ka : Nat) (kb : Nat) (cn : Int32) (h0 : Heap) (n0 : Nat) (v : Option Value) (h : Heap) (L : List Loc) : Prop := (v = some (.int (0 : Int32)) ∧ Fr n0 L ∧ Rr ka = Rr kb ∧ Keep h0 h [a0, pa] ∧ Fld Z h a0 "com/example/graftwork/graftwork/generate/Components" "parent" "[I" (.ref pa) ∧ Fld Z h a0 "com/example/graftwork/graftwork/generate/Components" "count" "I" (.int cn) ∧ ∃ f', own_U Z h pa pk nn f' ∧ own_Inv nn f' Rr d) ∨ (v = some (.int (1 : Int32)) ∧ Fr n0 L ∧ (¬ Rr ka = Rr kb) ∧ Keep h0 h [a0, pa] ∧ Fld Z h a0 "com/example/graftwork/graftwork/generate/Components" "parent" "[I" (.ref pa) ∧ Fld Z h a0 "com/example/graftwork/graftwork/generate/Components" "count" "I" (.int (cn - (1 : Int32))) ∧ ∃ f' d', own_U Z h pa pk nn f' ∧ own_Inv nn f' (own_R Rr (Rr ka) (Rr kb)) d')
set_option maxRecDepth 65536 in
set_option maxHeartbeats 40000000 in
theorem rmJoin (l : Launch) (Z : State) (av0 : Array Value) (hw : ∀ d ∈ tables_1, d.before av0 Z = true) (ws : List Jvm.Cond) (a0 : Addr) (pa : Addr) (pk : ClassId) (nn : Nat) (f : Nat → Nat) (Rr : Nat → Nat) (d : Nat → Nat) (ka : Nat) (kb : Nat) (cn : Int32) (h0 : Heap) (n0 : Nat) (Z0 : n0 ≤ h0.size) (hnn : nn ≤ 4) (hEx : Exa Z h0 a0 "com/example/graftwork/graftwork/generate/Components") (hFp : Fld Z h0 a0 "com/example/graftwork/graftwork/generate/Components" "parent" "[I" (.ref pa)) (hFc : Fld Z h0 a0 "com/example/graftwork/graftwork/generate/Components" "count" "I" (.int cn)) (hAr : own_U Z h0 pa pk nn f) (hI : own_Inv nn f Rr d) (hka : ka < nn) (hkb : kb < nn) (hga : n0 ≤ a0) (hgp : n0 ≤ pa) (hne : a0 ≠ pa) :
    own_Met l mN4 prog_24_method_2_code 5 (some .boolean) ws ({ frames := 1, cells := 0, slots := 0, locals := 14 } : Room) #[(.ref a0), (.int (own_n ka)), (.int (own_n kb))] Z h0 (QrmJoin Z a0 pa pk nn f Rr d ka kb cn h0 n0) := by
  refine MetFree.of_bodySF (plainFor_of_name pn_Components) hisR ?_
  intro p e s m args below meth c s₁ Bd hml0 hP hK
  obtain ⟨rfl, hZ, hh⟩ := hP
  have hml : c.maxLocals = 5 := hml0
  obtain ⟨hx, hby, hown, hnm, X0, e0⟩ := own_start Bd hml0 hh
  have N0 := Fr.nil n0
  have pre0 : ∀ tz, oS p e below s₁ (mkF m 0 #[rv a0, iv (own_n ka), iv (own_n kb), .unset, .unset] []) tz → Steps p.tables e below (s₁.setTop (entryFrame m #[(.ref a0), (.int (own_n ka)), (.int (own_n kb))] 5)) tz := fun tz kz => castTop (by first | (simp [entryFrame, mkF, argsToLocals, Value.category]; done) | rfl) kz
  obtain ⟨_, T1, Lc1, X1, hQ1, st1⟩ := own_private (W := 0) (y := mN3) X0 hx hZ hown (hw _ (own_w 26 rfl)) (hw _ (own_w 1 rfl)) (hw _ (own_w 28 rfl)) (hw _ (own_w 27 rfl)) (hw _ (own_w 29 rfl)) (hw _ (own_w 2 rfl)) (by decide) (rmRoot l Z av0 hw [] a0 pa pk nn f Rr d ka h0 n0 Z0 hnn hFp hAr hI hka hgp hne) (by decide) (by decide) hEx (g := (mkF m 2 #[rv a0, iv (own_n ka), iv (own_n kb), .unset, .unset] [(.int (own_n ka)), (.ref a0)])) rfl (by rw [hml]; rfl) (argsL := [(.int (own_n ka))]) (rest := []) (lenOf pd__I_I rfl) rfl (hb hby d5_2) rfl e0 (by decide : 0 + 0 ≤ _) (by decide : 0 + 0 ≤ _)
  obtain ⟨f1', rfl, N1q, K1, A1, I1⟩ := hQ1
  have N1 := Fr.app N0 N1q
  have e1 : T1.heap = T1.heap := rfl
  have Zk1 : n0 ≤ T1.heap.size := Nat.le_trans Z0 K1.1
  have Kk1 : Keep h0 T1.heap [a0, pa] := (Keep.refl h0 [a0, pa]).trans K1 (allS (Or.inl (List.mem_of_getElem? (i := 1) rfl)) all0)
  have f2 := (hFp.keep K1 (ninS hne nin0))
  have f4 := (hEx.keep K1)
  obtain ⟨_, T3, Lc3, X3, hQ3, st3⟩ := own_private (W := 0) (y := mN3) X1 hx hZ hown (hw _ (own_w 26 rfl)) (hw _ (own_w 1 rfl)) (hw _ (own_w 28 rfl)) (hw _ (own_w 27 rfl)) (hw _ (own_w 29 rfl)) (hw _ (own_w 2 rfl)) (by decide) (rmRoot l Z av0 hw [] a0 pa pk nn f1' Rr d kb T1.heap n0 Zk1 hnn f2 A1 I1 hkb hgp hne) (by decide) (by decide) f4 (g := (mkF m 8 #[rv a0, iv (own_n ka), iv (own_n kb), iv ((own_n (Rr ka))), .unset] [(.int (own_n kb)), (.ref a0)])) rfl (by rw [hml]; rfl) (argsL := [(.int (own_n kb))]) (rest := []) (lenOf pd__I_I rfl) rfl (hb hby d5_8) rfl e1 (by decide : 0 + 0 ≤ _) (by decide : 0 + 0 ≤ _)
  obtain ⟨f3', rfl, N3q, K3, A3, I3⟩ := hQ3
  have N3 := Fr.app N1 N3q
  have e3 : T3.heap = T3.heap := rfl
  have Zk3 : n0 ≤ T3.heap.size := Nat.le_trans Zk1 K3.1
  have Kk3 : Keep h0 T3.heap [a0, pa] := Kk1.trans K3 (allS (Or.inl (List.mem_of_getElem? (i := 1) rfl)) all0)
  have S5 : ∀ tz, oS p e below T3 (mkF m 16 #[rv a0, iv (own_n ka), iv (own_n kb), iv ((own_n (Rr ka))), iv ((own_n (Rr kb)))] [(.int (own_n (Rr kb))), (.int (own_n (Rr ka)))]) tz → oS p e below s₁ (mkF m 0 #[rv a0, iv (own_n ka), iv (own_n kb), .unset, .unset] []) tz := fun tz kz => id (by
    show oS p e below s₁ (mkF m 0 #[rv a0, iv (own_n ka), iv (own_n kb), .unset, .unset] []) _
    refine XS.aloadN X0.here hx rfl (hb hby d5_0) rfl rfl ?_
    refine XS.iloadN X0.here hx rfl (hb hby d5_1) rfl ?_
    refine st1 _ ?_
    refine XS.istoreN X1.here hx rfl (hb hby d5_5) rfl (l' := #[rv a0, iv (own_n ka), iv (own_n kb), iv ((own_n (Rr ka))), .unset]) rfl ?_
    refine XS.aloadN X1.here hx rfl (hb hby d5_6) rfl rfl ?_
    refine XS.iloadN X1.here hx rfl (hb hby d5_7) rfl ?_
    refine st3 _ ?_
    refine XS.istore X3.here hx rfl (hb hby d5_11) rfl (l' := #[rv a0, iv (own_n ka), iv (own_n kb), iv ((own_n (Rr ka))), iv ((own_n (Rr kb)))]) rfl ?_
    show oS p e below T3 (mkF m 13 #[rv a0, iv (own_n ka), iv (own_n kb), iv ((own_n (Rr ka))), iv ((own_n (Rr kb)))] []) _
    refine XS.iloadN X3.here hx rfl (hb hby d5_13) rfl ?_
    refine XS.iload X3.here hx rfl (hb hby d5_14) rfl ?_
    exact kz)
  by_cases hc16_6 : (own_n (Rr ka)) = (own_n (Rr kb))
  · have S7 : ∀ tz, oS p e below T3 (mkF m 20 #[rv a0, iv (own_n ka), iv (own_n kb), iv ((own_n (Rr ka))), iv ((own_n (Rr kb)))] [(.int 0)]) tz → oS p e below s₁ (mkF m 0 #[rv a0, iv (own_n ka), iv (own_n kb), .unset, .unset] []) tz := fun tz kz => S5 tz (by
      show oS p e below T3 (mkF m 16 #[rv a0, iv (own_n ka), iv (own_n kb), iv ((own_n (Rr ka))), iv ((own_n (Rr kb)))] [(.int (own_n (Rr kb))), (.int (own_n (Rr ka)))]) _
      refine XS.icmpNo X3.here hx rfl (hb hby d5_16) rfl (XT.ii_ne_f hc16_6) ?_
      refine XT.iconstV X3.here hx rfl (0 : Int32) (hb hby d5_19) (by decide) ?_
      exact kz)
    obtain ⟨fs, hr, hrun, hended, hW, hsame⟩ := X3.leave (v := some (.int 0)) (fun h => by rw [Bd.returns] at h; cases h)
    refine ⟨_, _, pre0 _ (S7 _ ?_), hrun, hended, _, _, rfl, ?_, ⟨_, rfl⟩, hW, hsame.mono (by decide) (by decide)⟩
    · exact retN X3 hx (t := .boolean) Bd.returns (by simp) (hb hby d5_20) hr
    have f8 := (f2.keep K3 (ninS hne nin0))
    have f9 := ((hFc.keep K1 (ninS hne nin0)).keep K3 (ninS hne nin0))
    · show QrmJoin Z a0 pa pk nn f Rr d ka kb cn h0 n0 _ T3.heap _
      rw [e3]
      exact Or.inl ⟨rfl, N3, own_ninj (Nat.le_of_lt (Nat.lt_of_lt_of_le (hI ka hka).2.1 hnn)) (Nat.le_of_lt (Nat.lt_of_lt_of_le (hI kb hkb).2.1 hnn)) hc16_6, Kk3, f8, f9, _, A3, I3⟩
  · have f10 := (f2.keep K3 (ninS hne nin0))
    obtain ⟨T11, X11, e11, st11⟩ := getF X3 hx hZ hown (host := "") (Or.inl (hw _ (own_w 10 rfl))) Via.refl e3 f10 (g := (mkF m 22 #[rv a0, iv (own_n ka), iv (own_n kb), iv ((own_n (Rr ka))), iv ((own_n (Rr kb)))] [(.ref a0)])) rfl rfl (hb hby d5_22)
    obtain ⟨cl12, Ar12, qk12, Sz12, Ng12, Hs12, Gs12⟩ := id A3
    have hin12 : ¬ ((own_n (Rr ka)) < 0 ∨ cl12.slots.size ≤ ((own_n (Rr ka))).toNatClampNeg) := own_inb Sz12 hnn (hI ka hka).2.1
    obtain ⟨T13, h13, X13, e13, W13, st13⟩ := stI X11 hx hZ e11 Ar12 (j := (own_n (Rr ka))) hin12 (g := (mkF m 28 #[rv a0, iv (own_n ka), iv (own_n kb), iv ((own_n (Rr ka))), iv ((own_n (Rr kb)))] [(.int (own_n (Rr kb))), (.int (own_n (Rr ka))), (.ref pa)])) rfl rfl (hb hby d5_28)
    have N13 := Fr.snoc X13 N3 hgp
    have Z13 : n0 ≤ h13.size := Nat.le_trans Zk3 (Nat.le_of_eq W13.size.symm)
    have K13 : Keep h0 h13 [a0, pa] := Kk3.wr W13 (Or.inl (List.mem_of_getElem? (i := 1) rfl))
    have V13 : own_U Z h13 pa pk nn (own_upd f3' (Rr ka) (Rr kb)) := own_arset (f := f3') Ar12 qk12 Sz12 Ng12 Hs12 Gs12 W13 hnn (hI ka hka).2.1
    have f14 := (((hFc.keep K1 (ninS hne nin0)).keep K3 (ninS hne nin0)).other W13 (Or.inl hne))
    obtain ⟨T15, X15, e15, st15⟩ := getF X13 hx hZ hown (host := "") (Or.inl (hw _ (own_w 12 rfl))) Via.refl e13 f14 (g := (mkF m 31 #[rv a0, iv (own_n ka), iv (own_n kb), iv ((own_n (Rr ka))), iv ((own_n (Rr kb)))] [(.ref a0), (.ref a0)])) rfl rfl (hb hby d5_31)
    have f16 := ((f4.keep K3).wr W13)
    obtain ⟨T17, h17, X17, e17, W17, st17⟩ := putF X15 hx hZ hown (host := "") (Or.inl (hw _ (own_w 12 rfl))) Via.refl e15 f14 f16 (Or.inl (hw _ (own_w 13 rfl))) (hw _ (own_w 1 rfl)) (ty := .int) (by decide) rfl rfl (g := (mkF m 36 #[rv a0, iv (own_n ka), iv (own_n kb), iv ((own_n (Rr ka))), iv ((own_n (Rr kb)))] [(.int (cn - (1 : Int32))), (.ref a0)])) rfl rfl (hb hby d5_36)
    have N17 := Fr.snoc X17 N13 hga
    have Z17 : n0 ≤ h17.size := Nat.le_trans Z13 (Nat.le_of_eq W17.size.symm)
    have K17 : Keep h0 h17 [a0, pa] := K13.wr W17 (Or.inl (List.mem_of_getElem? (i := 0) rfl))
    have Fw17 := f14.same W17
    have S18 : ∀ tz, oS p e below T17 (mkF m 40 #[rv a0, iv (own_n ka), iv (own_n kb), iv ((own_n (Rr ka))), iv ((own_n (Rr kb)))] [(.int 1)]) tz → oS p e below s₁ (mkF m 0 #[rv a0, iv (own_n ka), iv (own_n kb), .unset, .unset] []) tz := fun tz kz => S5 tz (by
      show oS p e below T3 (mkF m 16 #[rv a0, iv (own_n ka), iv (own_n kb), iv ((own_n (Rr ka))), iv ((own_n (Rr kb)))] [(.int (own_n (Rr kb))), (.int (own_n (Rr ka)))]) _
      refine XS.icmpYes X3.here hx rfl (pc0 := 16) (pc' := 21) rfl (hb hby d5_16) rfl (XT.ii_ne_t hc16_6) (by decide) (by decide) ?_
      refine XS.aloadN X3.here hx rfl (hb hby d5_21) rfl rfl ?_
      refine st11 _ ?_
      refine XS.iloadN X11.here hx rfl (hb hby d5_25) rfl ?_
      refine XS.iload X11.here hx rfl (hb hby d5_26) rfl ?_
      refine st13 _ ?_
      show oS p e below T13 (mkF m 29 #[rv a0, iv (own_n ka), iv (own_n kb), iv ((own_n (Rr ka))), iv ((own_n (Rr kb)))] []) _
      refine XS.aloadN X13.here hx rfl (hb hby d5_29) rfl rfl ?_
      refine XS.dup X13.here hx rfl (hb hby d5_30) rfl rfl ?_
      refine st15 _ ?_
      refine XT.iconstV X15.here hx rfl (1 : Int32) (hb hby d5_34) (by decide) ?_
      refine XS.isub X15.here hx rfl (hb hby d5_35) rfl ?_
      refine st17 _ ?_
      refine XT.iconstV X17.here hx rfl (1 : Int32) (hb hby d5_39) (by decide) ?_
      exact kz)
    obtain ⟨fs, hr, hrun, hended, hW, hsame⟩ := X17.leave (v := some (.int 1)) (fun h => by rw [Bd.returns] at h; cases h)
    refine ⟨_, _, pre0 _ (S18 _ ?_), hrun, hended, _, _, rfl, ?_, ⟨_, rfl⟩, hW, hsame.mono (by decide) (by decide)⟩
    · exact retN X17 hx (t := .boolean) Bd.returns (by simp) (hb hby d5_40) hr
    have f19 := (V13.other W17 (Ne.symm hne))
    have f20 := ((f10.other W13 (Or.inl hne)).other W17 (Or.inr (slot_ne (Or.inr (hw _ (own_w 11 rfl))) (Or.inl (hw _ (own_w 13 rfl))) (by decide) (t := (.array .int)) (t' := .int) (by decide) (by decide))))
    · show QrmJoin Z a0 pa pk nn f Rr d ka kb cn h0 n0 _ T17.heap _
      rw [e17]
      exact Or.inr ⟨rfl, N17, fun q => hc16_6 (congrArg own_n q), K17, f20, Fw17, _, (own_Invj I3 hka hkb (fun q => hc16_6 (congrArg own_n q))).elim fun d' q => ⟨d', f19, q⟩⟩
theorem d7_0 : decode method_4_code 0 = .ok (.aload_n 0, 1) := by decide +kernel
theorem d7_1 : decode method_4_code 1 = .ok (.iload_n 1, 1) := by decide +kernel
theorem d7_2 : decode method_4_code 2 = .ok (.iaload, 1) := by decide +kernel
theorem d7_3 : decode method_4_code 3 = .ok (.istore_n 3, 1) := by decide +kernel
theorem d7_4 : decode method_4_code 4 = .ok (.aload_n 0, 1) := by decide +kernel
theorem d7_5 : decode method_4_code 5 = .ok (.iload_n 2, 1) := by decide +kernel
theorem d7_6 : decode method_4_code 6 = .ok (.iaload, 1) := by decide +kernel
theorem d7_7 : decode method_4_code 7 = .ok (.istore 4, 2) := by decide +kernel
theorem d7_9 : decode method_4_code 9 = .ok (.iload_n 3, 1) := by decide +kernel
theorem d7_10 : decode method_4_code 10 = .ok (.iload 4, 2) := by decide +kernel
theorem d7_12 : decode method_4_code 12 = .ok (.if_icmp .ne 5, 3) := by decide +kernel
theorem d7_15 : decode method_4_code 15 = .ok (.iconst 0, 1) := by decide +kernel
theorem d7_16 : decode method_4_code 16 = .ok (.ireturn, 1) := by decide +kernel
def QrmRef0 (Z : State) (la : Addr) (lk : ClassId) (Lf : Nat → Int32) (ka : Nat) (kb : Nat) (h0 : Heap) (n0 : Nat) (v : Option Value) (h : Heap) (L : List Loc) : Prop := v = some (.int (0 : Int32)) ∧ Fr n0 L ∧ h = h0
set_option maxRecDepth 65536 in
set_option maxHeartbeats 40000000 in
theorem rmRef0 (l : Launch) (Z : State) (av0 : Array Value) (hw : ∀ d ∈ tables_1, d.before av0 Z = true) (ws : List Jvm.Cond) (la : Addr) (lk : ClassId) (Lf : Nat → Int32) (ka : Nat) (kb : Nat) (h0 : Heap) (n0 : Nat) (Z0 : n0 ≤ h0.size) (hB : own_B Z h0 la lk Lf) (hka : ka < 4) (hkb : kb < 4) (hgl : n0 ≤ la) (hL : Lf ka = Lf kb) :
    own_Met l mN5 method_4_code 5 (some .boolean) ws ({ frames := 0, cells := 0, slots := 0, locals := 0 } : Room) #[(.ref la), (.int (own_n ka)), (.int (own_n kb))] Z h0 (QrmRef0 Z la lk Lf ka kb h0 n0) := by
  refine MetFree.of_bodySF (plainFor_of_name pn_ComponentsJoinPinLaw) hisR ?_
  intro p e s m args below meth c s₁ Bd hml0 hP hK
  obtain ⟨rfl, hZ, hh⟩ := hP
  have hml : c.maxLocals = 5 := hml0
  obtain ⟨hx, hby, hown, hnm, X0, e0⟩ := own_start Bd hml0 hh
  have N0 := Fr.nil n0
  have pre0 : ∀ tz, oS p e below s₁ (mkF m 0 #[rv la, iv (own_n ka), iv (own_n kb), .unset, .unset] []) tz → Steps p.tables e below (s₁.setTop (entryFrame m #[(.ref la), (.int (own_n ka)), (.int (own_n kb))] 5)) tz := fun tz kz => castTop (by first | (simp [entryFrame, mkF, argsToLocals, Value.category]; done) | rfl) kz
  obtain ⟨cl1, Ar1, qk1, Sz1, Ng1, Hs1, Gs1⟩ := id hB
  have hin1 : ¬ ((own_n ka) < 0 ∨ cl1.slots.size ≤ ((own_n ka)).toNatClampNeg) := own_inb Sz1 (Nat.le_refl 4) hka
  have hat1 : cl1.slots[((own_n ka)).toNatClampNeg]? = some (.int (Lf ka)) := own_at (nn := 4) (g := Lf) Hs1 Sz1 (Nat.le_refl 4) hka rfl
  obtain ⟨cl2, Ar2, qk2, Sz2, Ng2, Hs2, Gs2⟩ := id hB
  have hin2 : ¬ ((own_n kb) < 0 ∨ cl2.slots.size ≤ ((own_n kb)).toNatClampNeg) := own_inb Sz2 (Nat.le_refl 4) hkb
  have hat2 : cl2.slots[((own_n kb)).toNatClampNeg]? = some (.int (Lf kb)) := own_at (nn := 4) (g := Lf) Hs2 Sz2 (Nat.le_refl 4) hkb rfl
  have S3 : ∀ tz, oS p e below s₁ (mkF m 16 #[rv la, iv (own_n ka), iv (own_n kb), iv (Lf ka), iv (Lf kb)] [(.int 0)]) tz → oS p e below s₁ (mkF m 0 #[rv la, iv (own_n ka), iv (own_n kb), .unset, .unset] []) tz := fun tz kz => id (by
    show oS p e below s₁ (mkF m 0 #[rv la, iv (own_n ka), iv (own_n kb), .unset, .unset] []) _
    refine XS.aloadN X0.here hx rfl (hb hby d7_0) rfl rfl ?_
    refine XS.iloadN X0.here hx rfl (hb hby d7_1) rfl ?_
    refine X0.iaload hx (j := (own_n ka)) (v := (.int (Lf ka))) (by rw [e0]; exact Ar1.1) (State.isArrayOf_alike hZ.alike Ar1.2.1) Ar1.2.2 hin1 hat1 (g := (mkF m 2 #[rv la, iv (own_n ka), iv (own_n kb), .unset, .unset] [(.int (own_n ka)), (.ref la)])) rfl rfl (hb hby d7_2) _ ?_
    refine XS.istoreN X0.here hx rfl (hb hby d7_3) rfl (l' := #[rv la, iv (own_n ka), iv (own_n kb), iv (Lf ka), .unset]) rfl ?_
    refine XS.aloadN X0.here hx rfl (hb hby d7_4) rfl rfl ?_
    refine XS.iloadN X0.here hx rfl (hb hby d7_5) rfl ?_
    refine X0.iaload hx (j := (own_n kb)) (v := (.int (Lf kb))) (by rw [e0]; exact Ar2.1) (State.isArrayOf_alike hZ.alike Ar2.2.1) Ar2.2.2 hin2 hat2 (g := (mkF m 6 #[rv la, iv (own_n ka), iv (own_n kb), iv (Lf ka), .unset] [(.int (own_n kb)), (.ref la)])) rfl rfl (hb hby d7_6) _ ?_
    refine XS.istore X0.here hx rfl (hb hby d7_7) rfl (l' := #[rv la, iv (own_n ka), iv (own_n kb), iv (Lf ka), iv (Lf kb)]) rfl ?_
    show oS p e below s₁ (mkF m 9 #[rv la, iv (own_n ka), iv (own_n kb), iv (Lf ka), iv (Lf kb)] []) _
    refine XS.iloadN X0.here hx rfl (hb hby d7_9) rfl ?_
    refine XS.iload X0.here hx rfl (hb hby d7_10) rfl ?_
    refine XS.icmpNo X0.here hx rfl (hb hby d7_12) rfl (XT.ii_ne_f hL) ?_
    refine XT.iconstV X0.here hx rfl (0 : Int32) (hb hby d7_15) (by decide) ?_
    exact kz)
  obtain ⟨fs, hr, hrun, hended, hW, hsame⟩ := X0.leave (v := some (.int 0)) (fun h => by rw [Bd.returns] at h; cases h)
  refine ⟨_, _, pre0 _ (S3 _ ?_), hrun, hended, _, _, rfl, ?_, ⟨_, rfl⟩, hW, hsame.mono (by decide) (by decide)⟩
  · exact retN X0 hx (t := .boolean) Bd.returns (by simp) (hb hby d7_16) hr
  · show QrmRef0 Z la lk Lf ka kb h0 n0 _ s₁.heap _
    rw [e0]
    exact ⟨rfl, N0, rfl⟩
theorem d7_17 : decode method_4_code 17 = .ok (.aload_n 0, 1) := by decide +kernel
theorem d7_18 : decode method_4_code 18 = .ok (.iconst 0, 1) := by decide +kernel
theorem d7_19 : decode method_4_code 19 = .ok (.iaload, 1) := by decide +kernel
theorem d7_20 : decode method_4_code 20 = .ok (.iload_n 3, 1) := by decide +kernel
theorem d7_21 : decode method_4_code 21 = .ok (.if_icmp .ne 8, 3) := by decide +kernel
theorem d7_24 : decode method_4_code 24 = .ok (.aload_n 0, 1) := by decide +kernel
theorem d7_25 : decode method_4_code 25 = .ok (.iconst 0, 1) := by decide +kernel
theorem d7_26 : decode method_4_code 26 = .ok (.iload 4, 2) := by decide +kernel
theorem d7_28 : decode method_4_code 28 = .ok (.iastore, 1) := by decide +kernel
theorem d7_29 : decode method_4_code 29 = .ok (.aload_n 0, 1) := by decide +kernel
theorem d7_30 : decode method_4_code 30 = .ok (.iconst 1, 1) := by decide +kernel
theorem d7_31 : decode method_4_code 31 = .ok (.iaload, 1) := by decide +kernel
theorem d7_32 : decode method_4_code 32 = .ok (.iload_n 3, 1) := by decide +kernel
theorem d7_33 : decode method_4_code 33 = .ok (.if_icmp .ne 8, 3) := by decide +kernel
theorem d7_36 : decode method_4_code 36 = .ok (.aload_n 0, 1) := by decide +kernel
theorem d7_37 : decode method_4_code 37 = .ok (.iconst 1, 1) := by decide +kernel
theorem d7_38 : decode method_4_code 38 = .ok (.iload 4, 2) := by decide +kernel
theorem d7_40 : decode method_4_code 40 = .ok (.iastore, 1) := by decide +kernel
theorem d7_41 : decode method_4_code 41 = .ok (.aload_n 0, 1) := by decide +kernel
theorem d7_42 : decode method_4_code 42 = .ok (.iconst 2, 1) := by decide +kernel
theorem d7_43 : decode method_4_code 43 = .ok (.iaload, 1) := by decide +kernel
theorem d7_44 : decode method_4_code 44 = .ok (.iload_n 3, 1) := by decide +kernel
theorem d7_45 : decode method_4_code 45 = .ok (.if_icmp .ne 8, 3) := by decide +kernel
theorem d7_48 : decode method_4_code 48 = .ok (.aload_n 0, 1) := by decide +kernel
theorem d7_49 : decode method_4_code 49 = .ok (.iconst 2, 1) := by decide +kernel
theorem d7_50 : decode method_4_code 50 = .ok (.iload 4, 2) := by decide +kernel
theorem d7_52 : decode method_4_code 52 = .ok (.iastore, 1) := by decide +kernel
theorem d7_53 : decode method_4_code 53 = .ok (.aload_n 0, 1) := by decide +kernel
theorem d7_54 : decode method_4_code 54 = .ok (.iconst 3, 1) := by decide +kernel
theorem d7_55 : decode method_4_code 55 = .ok (.iaload, 1) := by decide +kernel
theorem d7_56 : decode method_4_code 56 = .ok (.iload_n 3, 1) := by decide +kernel
theorem d7_57 : decode method_4_code 57 = .ok (.if_icmp .ne 8, 3) := by decide +kernel
theorem d7_60 : decode method_4_code 60 = .ok (.aload_n 0, 1) := by decide +kernel
theorem d7_61 : decode method_4_code 61 = .ok (.iconst 3, 1) := by decide +kernel
theorem d7_62 : decode method_4_code 62 = .ok (.iload 4, 2) := by decide +kernel
theorem d7_64 : decode method_4_code 64 = .ok (.iastore, 1) := by decide +kernel
theorem d7_65 : decode method_4_code 65 = .ok (.iconst 1, 1) := by decide +kernel
theorem d7_66 : decode method_4_code 66 = .ok (.ireturn, 1) := by decide +kernel
def QrmRef1 (Z : State) (la : Addr) (lk : ClassId) (Lf : Nat → Int32) (ka : Nat) (kb : Nat) (h0 : Heap) (n0 : Nat) (v : Option Value) (h : Heap) (L : List Loc) : Prop := v = some (.int (1 : Int32)) ∧ Fr n0 L ∧ Keep h0 h [la] ∧ own_B Z h la lk (own_L Lf (Lf ka) (Lf kb))
set_option maxRecDepth 65536 in
set_option maxHeartbeats 40000000 in
theorem rmRef1 (l : Launch) (Z : State) (av0 : Array Value) (hw : ∀ d ∈ tables_1, d.before av0 Z = true) (ws : List Jvm.Cond) (la : Addr) (lk : ClassId) (Lf : Nat → Int32) (ka : Nat) (kb : Nat) (h0 : Heap) (n0 : Nat) (Z0 : n0 ≤ h0.size) (hB : own_B Z h0 la lk Lf) (hka : ka < 4) (hkb : kb < 4) (hgl : n0 ≤ la) (hL : ¬ Lf ka = Lf kb) :
    own_Met l mN5 method_4_code 5 (some .boolean) ws ({ frames := 0, cells := 0, slots := 0, locals := 0 } : Room) #[(.ref la), (.int (own_n ka)), (.int (own_n kb))] Z h0 (QrmRef1 Z la lk Lf ka kb h0 n0) := by
  refine MetFree.of_bodySF (plainFor_of_name pn_ComponentsJoinPinLaw) hisR ?_
  intro p e s m args below meth c s₁ Bd hml0 hP hK
  obtain ⟨rfl, hZ, hh⟩ := hP
  have hml : c.maxLocals = 5 := hml0
  obtain ⟨hx, hby, hown, hnm, X0, e0⟩ := own_start Bd hml0 hh
  have N0 := Fr.nil n0
  have pre0 : ∀ tz, oS p e below s₁ (mkF m 0 #[rv la, iv (own_n ka), iv (own_n kb), .unset, .unset] []) tz → Steps p.tables e below (s₁.setTop (entryFrame m #[(.ref la), (.int (own_n ka)), (.int (own_n kb))] 5)) tz := fun tz kz => castTop (by first | (simp [entryFrame, mkF, argsToLocals, Value.category]; done) | rfl) kz
  obtain ⟨cl1, Ar1, qk1, Sz1, Ng1, Hs1, Gs1⟩ := id hB
  have hin1 : ¬ ((own_n ka) < 0 ∨ cl1.slots.size ≤ ((own_n ka)).toNatClampNeg) := own_inb Sz1 (Nat.le_refl 4) hka
  have hat1 : cl1.slots[((own_n ka)).toNatClampNeg]? = some (.int (Lf ka)) := own_at (nn := 4) (g := Lf) Hs1 Sz1 (Nat.le_refl 4) hka rfl
  obtain ⟨cl2, Ar2, qk2, Sz2, Ng2, Hs2, Gs2⟩ := id hB
  have hin2 : ¬ ((own_n kb) < 0 ∨ cl2.slots.size ≤ ((own_n kb)).toNatClampNeg) := own_inb Sz2 (Nat.le_refl 4) hkb
  have hat2 : cl2.slots[((own_n kb)).toNatClampNeg]? = some (.int (Lf kb)) := own_at (nn := 4) (g := Lf) Hs2 Sz2 (Nat.le_refl 4) hkb rfl
  obtain ⟨cl3, Ar3, qk3, Sz3, Ng3, Hs3, Gs3⟩ := id hB
  have hin3 : ¬ ((0 : Int32) < 0 ∨ cl3.slots.size ≤ ((0 : Int32)).toNatClampNeg) := inb_of Sz3 ⟨by decide, by decide⟩
  have hat3 : cl3.slots[((0 : Int32)).toNatClampNeg]? = some (.int (Lf 0)) := Hs3.at hin3 rfl
  have S4 : ∀ tz, oS p e below s₁ (mkF m 21 #[rv la, iv (own_n ka), iv (own_n kb), iv (Lf ka), iv (Lf kb)] [(.int (Lf ka)), (.int (Lf 0))]) tz → oS p e below s₁ (mkF m 0 #[rv la, iv (own_n ka), iv (own_n kb), .unset, .unset] []) tz := fun tz kz => id (by
    show oS p e below s₁ (mkF m 0 #[rv la, iv (own_n ka), iv (own_n kb), .unset, .unset] []) _
    refine XS.aloadN X0.here hx rfl (hb hby d7_0) rfl rfl ?_
    refine XS.iloadN X0.here hx rfl (hb hby d7_1) rfl ?_
    refine X0.iaload hx (j := (own_n ka)) (v := (.int (Lf ka))) (by rw [e0]; exact Ar1.1) (State.isArrayOf_alike hZ.alike Ar1.2.1) Ar1.2.2 hin1 hat1 (g := (mkF m 2 #[rv la, iv (own_n ka), iv (own_n kb), .unset, .unset] [(.int (own_n ka)), (.ref la)])) rfl rfl (hb hby d7_2) _ ?_
    refine XS.istoreN X0.here hx rfl (hb hby d7_3) rfl (l' := #[rv la, iv (own_n ka), iv (own_n kb), iv (Lf ka), .unset]) rfl ?_
    refine XS.aloadN X0.here hx rfl (hb hby d7_4) rfl rfl ?_
    refine XS.iloadN X0.here hx rfl (hb hby d7_5) rfl ?_
    refine X0.iaload hx (j := (own_n kb)) (v := (.int (Lf kb))) (by rw [e0]; exact Ar2.1) (State.isArrayOf_alike hZ.alike Ar2.2.1) Ar2.2.2 hin2 hat2 (g := (mkF m 6 #[rv la, iv (own_n ka), iv (own_n kb), iv (Lf ka), .unset] [(.int (own_n kb)), (.ref la)])) rfl rfl (hb hby d7_6) _ ?_
    refine XS.istore X0.here hx rfl (hb hby d7_7) rfl (l' := #[rv la, iv (own_n ka), iv (own_n kb), iv (Lf ka), iv (Lf kb)]) rfl ?_
    show oS p e below s₁ (mkF m 9 #[rv la, iv (own_n ka), iv (own_n kb), iv (Lf ka), iv (Lf kb)] []) _
    refine XS.iloadN X0.here hx rfl (hb hby d7_9) rfl ?_
    refine XS.iload X0.here hx rfl (hb hby d7_10) rfl ?_
    refine XS.icmpYes X0.here hx rfl (pc0 := 12) (pc' := 17) rfl (hb hby d7_12) rfl (XT.ii_ne_t hL) (by decide) (by decide) ?_
    refine XS.aloadN X0.here hx rfl (hb hby d7_17) rfl rfl ?_
    refine XT.iconstV X0.here hx rfl (0 : Int32) (hb hby d7_18) (by decide) ?_
    refine X0.iaload hx (j := (0 : Int32)) (v := (.int (Lf 0))) (by rw [e0]; exact Ar3.1) (State.isArrayOf_alike hZ.alike Ar3.2.1) Ar3.2.2 hin3 hat3 (g := (mkF m 19 #[rv la, iv (own_n ka), iv (own_n kb), iv (Lf ka), iv (Lf kb)] [(.int 0), (.ref la)])) rfl rfl (hb hby d7_19) _ ?_
    refine XS.iloadN X0.here hx rfl (hb hby d7_20) rfl ?_
    exact kz)
  by_cases hc21_5 : (Lf 0) = (Lf ka)
  · obtain ⟨cl6, Ar6, qk6, Sz6, Ng6, Hs6, Gs6⟩ := id hB
    have hin6 : ¬ ((0 : Int32) < 0 ∨ cl6.slots.size ≤ ((0 : Int32)).toNatClampNeg) := inb_of Sz6 ⟨by decide, by decide⟩
    obtain ⟨T7, h7, X7, e7, W7, st7⟩ := stI X0 hx hZ e0 Ar6 (j := (0 : Int32)) hin6 (g := (mkF m 28 #[rv la, iv (own_n ka), iv (own_n kb), iv (Lf ka), iv (Lf kb)] [(.int (Lf kb)), (.int 0), (.ref la)])) rfl rfl (hb hby d7_28)
    have N7 := Fr.snoc X7 N0 hgl
    have Z7 : n0 ≤ h7.size := Nat.le_trans Z0 (Nat.le_of_eq W7.size.symm)
    have K7 : Keep h0 h7 [la] := (Keep.refl h0 [la]).wr W7 (Or.inl (List.mem_of_getElem? (i := 0) rfl))
    have V7 : Arv Z h7 la lk .int (4 : Int32) [(.int (Lf kb)), (.int (Lf 1)), (.int (Lf 2)), (.int (Lf 3))] (.int (0 : Int32)) := Arv.set Ar6 qk6 Sz6 Ng6 Hs6 Gs6 rfl W7 0 rfl (Nat.le_of_ble_eq_true rfl)
    obtain ⟨cl8, Ar8, qk8, Sz8, Ng8, Hs8, Gs8⟩ := id V7
    have hin8 : ¬ ((1 : Int32) < 0 ∨ cl8.slots.size ≤ ((1 : Int32)).toNatClampNeg) := inb_of Sz8 ⟨by decide, by decide⟩
    have hat8 : cl8.slots[((1 : Int32)).toNatClampNeg]? = some (.int (Lf 1)) := Hs8.at hin8 rfl
    have S9 : ∀ tz, oS p e below T7 (mkF m 33 #[rv la, iv (own_n ka), iv (own_n kb), iv (Lf ka), iv (Lf kb)] [(.int (Lf ka)), (.int (Lf 1))]) tz → oS p e below s₁ (mkF m 0 #[rv la, iv (own_n ka), iv (own_n kb), .unset, .unset] []) tz := fun tz kz => S4 tz (by
      show oS p e below s₁ (mkF m 21 #[rv la, iv (own_n ka), iv (own_n kb), iv (Lf ka), iv (Lf kb)] [(.int (Lf ka)), (.int (Lf 0))]) _
      refine XS.icmpNo X0.here hx rfl (hb hby d7_21) rfl (XT.ii_ne_f hc21_5) ?_
      show oS p e below s₁ (mkF m 24 #[rv la, iv (own_n ka), iv (own_n kb), iv (Lf ka), iv (Lf kb)] []) _
      refine XS.aloadN X0.here hx rfl (hb hby d7_24) rfl rfl ?_
      refine XT.iconstV X0.here hx rfl (0 : Int32) (hb hby d7_25) (by decide) ?_
      refine XS.iload X0.here hx rfl (hb hby d7_26) rfl ?_
      refine st7 _ ?_
      refine XS.aloadN X7.here hx rfl (hb hby d7_29) rfl rfl ?_
      refine XT.iconstV X7.here hx rfl (1 : Int32) (hb hby d7_30) (by decide) ?_
      refine X7.iaload hx (j := (1 : Int32)) (v := (.int (Lf 1))) (by rw [e7]; exact Ar8.1) (State.isArrayOf_alike hZ.alike Ar8.2.1) Ar8.2.2 hin8 hat8 (g := (mkF m 31 #[rv la, iv (own_n ka), iv (own_n kb), iv (Lf ka), iv (Lf kb)] [(.int 1), (.ref la)])) rfl rfl (hb hby d7_31) _ ?_
      refine XS.iloadN X7.here hx rfl (hb hby d7_32) rfl ?_
      show oS p e below T7 (mkF m 33 #[rv la, iv (own_n ka), iv (own_n kb), iv (Lf ka), iv (Lf kb)] [(.int (Lf ka)), (.int (Lf 1))]) _
      exact kz)
    by_cases hc33_10 : (Lf 1) = (Lf ka)
    · obtain ⟨cl11, Ar11, qk11, Sz11, Ng11, Hs11, Gs11⟩ := id V7
      have hin11 : ¬ ((1 : Int32) < 0 ∨ cl11.slots.size ≤ ((1 : Int32)).toNatClampNeg) := inb_of Sz11 ⟨by decide, by decide⟩
      obtain ⟨T12, h12, X12, e12, W12, st12⟩ := stI X7 hx hZ e7 Ar11 (j := (1 : Int32)) hin11 (g := (mkF m 40 #[rv la, iv (own_n ka), iv (own_n kb), iv (Lf ka), iv (Lf kb)] [(.int (Lf kb)), (.int 1), (.ref la)])) rfl rfl (hb hby d7_40)
      have N12 := Fr.snoc X12 N7 hgl
      have Z12 : n0 ≤ h12.size := Nat.le_trans Z7 (Nat.le_of_eq W12.size.symm)
      have K12 : Keep h0 h12 [la] := K7.wr W12 (Or.inl (List.mem_of_getElem? (i := 0) rfl))
      have V12 : Arv Z h12 la lk .int (4 : Int32) [(.int (Lf kb)), (.int (Lf kb)), (.int (Lf 2)), (.int (Lf 3))] (.int (0 : Int32)) := Arv.set Ar11 qk11 Sz11 Ng11 Hs11 Gs11 rfl W12 1 rfl (Nat.le_of_ble_eq_true rfl)
      obtain ⟨cl13, Ar13, qk13, Sz13, Ng13, Hs13, Gs13⟩ := id V12
      have hin13 : ¬ ((2 : Int32) < 0 ∨ cl13.slots.size ≤ ((2 : Int32)).toNatClampNeg) := inb_of Sz13 ⟨by decide, by decide⟩
      have hat13 : cl13.slots[((2 : Int32)).toNatClampNeg]? = some (.int (Lf 2)) := Hs13.at hin13 rfl
      have S14 : ∀ tz, oS p e below T12 (mkF m 45 #[rv la, iv (own_n ka), iv (own_n kb), iv (Lf ka), iv (Lf kb)] [(.int (Lf ka)), (.int (Lf 2))]) tz → oS p e below s₁ (mkF m 0 #[rv la, iv (own_n ka), iv (own_n kb), .unset, .unset] []) tz := fun tz kz => S9 tz (by
        show oS p e below T7 (mkF m 33 #[rv la, iv (own_n ka), iv (own_n kb), iv (Lf ka), iv (Lf kb)] [(.int (Lf ka)), (.int (Lf 1))]) _
        refine XS.icmpNo X7.here hx rfl (hb hby d7_33) rfl (XT.ii_ne_f hc33_10) ?_
        refine XS.aloadN X7.here hx rfl (hb hby d7_36) rfl rfl ?_
        refine XT.iconstV X7.here hx rfl (1 : Int32) (hb hby d7_37) (by decide) ?_
        refine XS.iload X7.here hx rfl (hb hby d7_38) rfl ?_
        refine st12 _ ?_
        refine XS.aloadN X12.here hx rfl (hb hby d7_41) rfl rfl ?_
        refine XT.iconstV X12.here hx rfl (2 : Int32) (hb hby d7_42) (by decide) ?_
        refine X12.iaload hx (j := (2 : Int32)) (v := (.int (Lf 2))) (by rw [e12]; exact Ar13.1) (State.isArrayOf_alike hZ.alike Ar13.2.1) Ar13.2.2 hin13 hat13 (g := (mkF m 43 #[rv la, iv (own_n ka), iv (own_n kb), iv (Lf ka), iv (Lf kb)] [(.int 2), (.ref la)])) rfl rfl (hb hby d7_43) _ ?_
        show oS p e below T12 (mkF m 44 #[rv la, iv (own_n ka), iv (own_n kb), iv (Lf ka), iv (Lf kb)] [(.int (Lf 2))]) _
        refine XS.iloadN X12.here hx rfl (hb hby d7_44) rfl ?_
        exact kz)
      by_cases hc45_15 : (Lf 2) = (Lf ka)
      · obtain ⟨cl16, Ar16, qk16, Sz16, Ng16, Hs16, Gs16⟩ := id V12
        have hin16 : ¬ ((2 : Int32) < 0 ∨ cl16.slots.size ≤ ((2 : Int32)).toNatClampNeg) := inb_of Sz16 ⟨by decide, by decide⟩
        obtain ⟨T17, h17, X17, e17, W17, st17⟩ := stI X12 hx hZ e12 Ar16 (j := (2 : Int32)) hin16 (g := (mkF m 52 #[rv la, iv (own_n ka), iv (own_n kb), iv (Lf ka), iv (Lf kb)] [(.int (Lf kb)), (.int 2), (.ref la)])) rfl rfl (hb hby d7_52)
        have N17 := Fr.snoc X17 N12 hgl
        have Z17 : n0 ≤ h17.size := Nat.le_trans Z12 (Nat.le_of_eq W17.size.symm)
        have K17 : Keep h0 h17 [la] := K12.wr W17 (Or.inl (List.mem_of_getElem? (i := 0) rfl))
        have V17 : Arv Z h17 la lk .int (4 : Int32) [(.int (Lf kb)), (.int (Lf kb)), (.int (Lf kb)), (.int (Lf 3))] (.int (0 : Int32)) := Arv.set Ar16 qk16 Sz16 Ng16 Hs16 Gs16 rfl W17 2 rfl (Nat.le_of_ble_eq_true rfl)
        obtain ⟨cl18, Ar18, qk18, Sz18, Ng18, Hs18, Gs18⟩ := id V17
        have hin18 : ¬ ((3 : Int32) < 0 ∨ cl18.slots.size ≤ ((3 : Int32)).toNatClampNeg) := inb_of Sz18 ⟨by decide, by decide⟩
        have hat18 : cl18.slots[((3 : Int32)).toNatClampNeg]? = some (.int (Lf 3)) := Hs18.at hin18 rfl
        have S19 : ∀ tz, oS p e below T17 (mkF m 57 #[rv la, iv (own_n ka), iv (own_n kb), iv (Lf ka), iv (Lf kb)] [(.int (Lf ka)), (.int (Lf 3))]) tz → oS p e below s₁ (mkF m 0 #[rv la, iv (own_n ka), iv (own_n kb), .unset, .unset] []) tz := fun tz kz => S14 tz (by
          show oS p e below T12 (mkF m 45 #[rv la, iv (own_n ka), iv (own_n kb), iv (Lf ka), iv (Lf kb)] [(.int (Lf ka)), (.int (Lf 2))]) _
          refine XS.icmpNo X12.here hx rfl (hb hby d7_45) rfl (XT.ii_ne_f hc45_15) ?_
          refine XS.aloadN X12.here hx rfl (hb hby d7_48) rfl rfl ?_
          refine XT.iconstV X12.here hx rfl (2 : Int32) (hb hby d7_49) (by decide) ?_
          refine XS.iload X12.here hx rfl (hb hby d7_50) rfl ?_
          refine st17 _ ?_
          refine XS.aloadN X17.here hx rfl (hb hby d7_53) rfl rfl ?_
          refine XT.iconstV X17.here hx rfl (3 : Int32) (hb hby d7_54) (by decide) ?_
          show oS p e below T17 (mkF m 55 #[rv la, iv (own_n ka), iv (own_n kb), iv (Lf ka), iv (Lf kb)] [(.int 3), (.ref la)]) _
          refine X17.iaload hx (j := (3 : Int32)) (v := (.int (Lf 3))) (by rw [e17]; exact Ar18.1) (State.isArrayOf_alike hZ.alike Ar18.2.1) Ar18.2.2 hin18 hat18 (g := (mkF m 55 #[rv la, iv (own_n ka), iv (own_n kb), iv (Lf ka), iv (Lf kb)] [(.int 3), (.ref la)])) rfl rfl (hb hby d7_55) _ ?_
          refine XS.iloadN X17.here hx rfl (hb hby d7_56) rfl ?_
          exact kz)
        by_cases hc57_20 : (Lf 3) = (Lf ka)
        · obtain ⟨cl21, Ar21, qk21, Sz21, Ng21, Hs21, Gs21⟩ := id V17
          have hin21 : ¬ ((3 : Int32) < 0 ∨ cl21.slots.size ≤ ((3 : Int32)).toNatClampNeg) := inb_of Sz21 ⟨by decide, by decide⟩
          obtain ⟨T22, h22, X22, e22, W22, st22⟩ := stI X17 hx hZ e17 Ar21 (j := (3 : Int32)) hin21 (g := (mkF m 64 #[rv la, iv (own_n ka), iv (own_n kb), iv (Lf ka), iv (Lf kb)] [(.int (Lf kb)), (.int 3), (.ref la)])) rfl rfl (hb hby d7_64)
          have N22 := Fr.snoc X22 N17 hgl
          have Z22 : n0 ≤ h22.size := Nat.le_trans Z17 (Nat.le_of_eq W22.size.symm)
          have K22 : Keep h0 h22 [la] := K17.wr W22 (Or.inl (List.mem_of_getElem? (i := 0) rfl))
          have V22 : Arv Z h22 la lk .int (4 : Int32) [(.int (Lf kb)), (.int (Lf kb)), (.int (Lf kb)), (.int (Lf kb))] (.int (0 : Int32)) := Arv.set Ar21 qk21 Sz21 Ng21 Hs21 Gs21 rfl W22 3 rfl (Nat.le_of_ble_eq_true rfl)
          have S23 : ∀ tz, oS p e below T22 (mkF m 66 #[rv la, iv (own_n ka), iv (own_n kb), iv (Lf ka), iv (Lf kb)] [(.int 1)]) tz → oS p e below s₁ (mkF m 0 #[rv la, iv (own_n ka), iv (own_n kb), .unset, .unset] []) tz := fun tz kz => S19 tz (by
            show oS p e below T17 (mkF m 57 #[rv la, iv (own_n ka), iv (own_n kb), iv (Lf ka), iv (Lf kb)] [(.int (Lf ka)), (.int (Lf 3))]) _
            refine XS.icmpNo X17.here hx rfl (hb hby d7_57) rfl (XT.ii_ne_f hc57_20) ?_
            refine XS.aloadN X17.here hx rfl (hb hby d7_60) rfl rfl ?_
            refine XT.iconstV X17.here hx rfl (3 : Int32) (hb hby d7_61) (by decide) ?_
            refine XS.iload X17.here hx rfl (hb hby d7_62) rfl ?_
            refine st22 _ ?_
            refine XT.iconstV X22.here hx rfl (1 : Int32) (hb hby d7_65) (by decide) ?_
            show oS p e below T22 (mkF m 66 #[rv la, iv (own_n ka), iv (own_n kb), iv (Lf ka), iv (Lf kb)] [(.int 1)]) _
            exact kz)
          obtain ⟨fs, hr, hrun, hended, hW, hsame⟩ := X22.leave (v := some (.int 1)) (fun h => by rw [Bd.returns] at h; cases h)
          refine ⟨_, _, pre0 _ (S23 _ ?_), hrun, hended, _, _, rfl, ?_, ⟨_, rfl⟩, hW, hsame.mono (by decide) (by decide)⟩
          · exact retN X22 hx (t := .boolean) Bd.returns (by simp) (hb hby d7_66) hr
          · show QrmRef1 Z la lk Lf ka kb h0 n0 _ T22.heap _
            rw [e22]
            exact ⟨rfl, N22, K22, own_l4 (g := own_L Lf (Lf ka) (Lf kb)) V22 (if_pos hc21_5) (if_pos hc33_10) (if_pos hc45_15) (if_pos hc57_20)⟩
        · have S24 : ∀ tz, oS p e below T17 (mkF m 66 #[rv la, iv (own_n ka), iv (own_n kb), iv (Lf ka), iv (Lf kb)] [(.int 1)]) tz → oS p e below s₁ (mkF m 0 #[rv la, iv (own_n ka), iv (own_n kb), .unset, .unset] []) tz := fun tz kz => S19 tz (by
            show oS p e below T17 (mkF m 57 #[rv la, iv (own_n ka), iv (own_n kb), iv (Lf ka), iv (Lf kb)] [(.int (Lf ka)), (.int (Lf 3))]) _
            refine XS.icmpYes X17.here hx rfl (pc0 := 57) (pc' := 65) rfl (hb hby d7_57) rfl (XT.ii_ne_t hc57_20) (by decide) (by decide) ?_
            refine XT.iconstV X17.here hx rfl (1 : Int32) (hb hby d7_65) (by decide) ?_
            exact kz)
          obtain ⟨fs, hr, hrun, hended, hW, hsame⟩ := X17.leave (v := some (.int 1)) (fun h => by rw [Bd.returns] at h; cases h)
          refine ⟨_, _, pre0 _ (S24 _ ?_), hrun, hended, _, _, rfl, ?_, ⟨_, rfl⟩, hW, hsame.mono (by decide) (by decide)⟩
          · exact retN X17 hx (t := .boolean) Bd.returns (by simp) (hb hby d7_66) hr
          · show QrmRef1 Z la lk Lf ka kb h0 n0 _ T17.heap _
            rw [e17]
            exact ⟨rfl, N17, K17, own_l4 (g := own_L Lf (Lf ka) (Lf kb)) V17 (if_pos hc21_5) (if_pos hc33_10) (if_pos hc45_15) (if_neg hc57_20)⟩
      · obtain ⟨cl25, Ar25, qk25, Sz25, Ng25, Hs25, Gs25⟩ := id V12
        have hin25 : ¬ ((3 : Int32) < 0 ∨ cl25.slots.size ≤ ((3 : Int32)).toNatClampNeg) := inb_of Sz25 ⟨by decide, by decide⟩
        have hat25 : cl25.slots[((3 : Int32)).toNatClampNeg]? = some (.int (Lf 3)) := Hs25.at hin25 rfl
        have S26 : ∀ tz, oS p e below T12 (mkF m 57 #[rv la, iv (own_n ka), iv (own_n kb), iv (Lf ka), iv (Lf kb)] [(.int (Lf ka)), (.int (Lf 3))]) tz → oS p e below s₁ (mkF m 0 #[rv la, iv (own_n ka), iv (own_n kb), .unset, .unset] []) tz := fun tz kz => S14 tz (by
          show oS p e below T12 (mkF m 45 #[rv la, iv (own_n ka), iv (own_n kb), iv (Lf ka), iv (Lf kb)] [(.int (Lf ka)), (.int (Lf 2))]) _
          refine XS.icmpYes X12.here hx rfl (pc0 := 45) (pc' := 53) rfl (hb hby d7_45) rfl (XT.ii_ne_t hc45_15) (by decide) (by decide) ?_
          refine XS.aloadN X12.here hx rfl (hb hby d7_53) rfl rfl ?_
          refine XT.iconstV X12.here hx rfl (3 : Int32) (hb hby d7_54) (by decide) ?_
          refine X12.iaload hx (j := (3 : Int32)) (v := (.int (Lf 3))) (by rw [e12]; exact Ar25.1) (State.isArrayOf_alike hZ.alike Ar25.2.1) Ar25.2.2 hin25 hat25 (g := (mkF m 55 #[rv la, iv (own_n ka), iv (own_n kb), iv (Lf ka), iv (Lf kb)] [(.int 3), (.ref la)])) rfl rfl (hb hby d7_55) _ ?_
          refine XS.iloadN X12.here hx rfl (hb hby d7_56) rfl ?_
          exact kz)
        by_cases hc57_27 : (Lf 3) = (Lf ka)
        · obtain ⟨cl28, Ar28, qk28, Sz28, Ng28, Hs28, Gs28⟩ := id V12
          have hin28 : ¬ ((3 : Int32) < 0 ∨ cl28.slots.size ≤ ((3 : Int32)).toNatClampNeg) := inb_of Sz28 ⟨by decide, by decide⟩
          obtain ⟨T29, h29, X29, e29, W29, st29⟩ := stI X12 hx hZ e12 Ar28 (j := (3 : Int32)) hin28 (g := (mkF m 64 #[rv la, iv (own_n ka), iv (own_n kb), iv (Lf ka), iv (Lf kb)] [(.int (Lf kb)), (.int 3), (.ref la)])) rfl rfl (hb hby d7_64)
          have N29 := Fr.snoc X29 N12 hgl
          have Z29 : n0 ≤ h29.size := Nat.le_trans Z12 (Nat.le_of_eq W29.size.symm)
          have K29 : Keep h0 h29 [la] := K12.wr W29 (Or.inl (List.mem_of_getElem? (i := 0) rfl))
          have V29 : Arv Z h29 la lk .int (4 : Int32) [(.int (Lf kb)), (.int (Lf kb)), (.int (Lf 2)), (.int (Lf kb))] (.int (0 : Int32)) := Arv.set Ar28 qk28 Sz28 Ng28 Hs28 Gs28 rfl W29 3 rfl (Nat.le_of_ble_eq_true rfl)
          have S30 : ∀ tz, oS p e below T29 (mkF m 66 #[rv la, iv (own_n ka), iv (own_n kb), iv (Lf ka), iv (Lf kb)] [(.int 1)]) tz → oS p e below s₁ (mkF m 0 #[rv la, iv (own_n ka), iv (own_n kb), .unset, .unset] []) tz := fun tz kz => S26 tz (by
            show oS p e below T12 (mkF m 57 #[rv la, iv (own_n ka), iv (own_n kb), iv (Lf ka), iv (Lf kb)] [(.int (Lf ka)), (.int (Lf 3))]) _
            refine XS.icmpNo X12.here hx rfl (hb hby d7_57) rfl (XT.ii_ne_f hc57_27) ?_
            refine XS.aloadN X12.here hx rfl (hb hby d7_60) rfl rfl ?_
            show oS p e below T12 (mkF m 61 #[rv la, iv (own_n ka), iv (own_n kb), iv (Lf ka), iv (Lf kb)] [(.ref la)]) _
            refine XT.iconstV X12.here hx rfl (3 : Int32) (hb hby d7_61) (by decide) ?_
            refine XS.iload X12.here hx rfl (hb hby d7_62) rfl ?_
            refine st29 _ ?_
            refine XT.iconstV X29.here hx rfl (1 : Int32) (hb hby d7_65) (by decide) ?_
            exact kz)
          obtain ⟨fs, hr, hrun, hended, hW, hsame⟩ := X29.leave (v := some (.int 1)) (fun h => by rw [Bd.returns] at h; cases h)
          refine ⟨_, _, pre0 _ (S30 _ ?_), hrun, hended, _, _, rfl, ?_, ⟨_, rfl⟩, hW, hsame.mono (by decide) (by decide)⟩
          · exact retN X29 hx (t := .boolean) Bd.returns (by simp) (hb hby d7_66) hr
          · show QrmRef1 Z la lk Lf ka kb h0 n0 _ T29.heap _
            rw [e29]
            exact ⟨rfl, N29, K29, own_l4 (g := own_L Lf (Lf ka) (Lf kb)) V29 (if_pos hc21_5) (if_pos hc33_10) (if_neg hc45_15) (if_pos hc57_27)⟩
        · have S31 : ∀ tz, oS p e below T12 (mkF m 66 #[rv la, iv (own_n ka), iv (own_n kb), iv (Lf ka), iv (Lf kb)] [(.int 1)]) tz → oS p e below s₁ (mkF m 0 #[rv la, iv (own_n ka), iv (own_n kb), .unset, .unset] []) tz := fun tz kz => S26 tz (by
            show oS p e below T12 (mkF m 57 #[rv la, iv (own_n ka), iv (own_n kb), iv (Lf ka), iv (Lf kb)] [(.int (Lf ka)), (.int (Lf 3))]) _
            refine XS.icmpYes X12.here hx rfl (pc0 := 57) (pc' := 65) rfl (hb hby d7_57) rfl (XT.ii_ne_t hc57_27) (by decide) (by decide) ?_
            refine XT.iconstV X12.here hx rfl (1 : Int32) (hb hby d7_65) (by decide) ?_
            show oS p e below T12 (mkF m 66 #[rv la, iv (own_n ka), iv (own_n kb), iv (Lf ka), iv (Lf kb)] [(.int 1)]) _
            exact kz)
          obtain ⟨fs, hr, hrun, hended, hW, hsame⟩ := X12.leave (v := some (.int 1)) (fun h => by rw [Bd.returns] at h; cases h)
          refine ⟨_, _, pre0 _ (S31 _ ?_), hrun, hended, _, _, rfl, ?_, ⟨_, rfl⟩, hW, hsame.mono (by decide) (by decide)⟩
          · exact retN X12 hx (t := .boolean) Bd.returns (by simp) (hb hby d7_66) hr
          · show QrmRef1 Z la lk Lf ka kb h0 n0 _ T12.heap _
            rw [e12]
            exact ⟨rfl, N12, K12, own_l4 (g := own_L Lf (Lf ka) (Lf kb)) V12 (if_pos hc21_5) (if_pos hc33_10) (if_neg hc45_15) (if_neg hc57_27)⟩
    · obtain ⟨cl32, Ar32, qk32, Sz32, Ng32, Hs32, Gs32⟩ := id V7
      have hin32 : ¬ ((2 : Int32) < 0 ∨ cl32.slots.size ≤ ((2 : Int32)).toNatClampNeg) := inb_of Sz32 ⟨by decide, by decide⟩
      have hat32 : cl32.slots[((2 : Int32)).toNatClampNeg]? = some (.int (Lf 2)) := Hs32.at hin32 rfl
      have S33 : ∀ tz, oS p e below T7 (mkF m 45 #[rv la, iv (own_n ka), iv (own_n kb), iv (Lf ka), iv (Lf kb)] [(.int (Lf ka)), (.int (Lf 2))]) tz → oS p e below s₁ (mkF m 0 #[rv la, iv (own_n ka), iv (own_n kb), .unset, .unset] []) tz := fun tz kz => S9 tz (by
        show oS p e below T7 (mkF m 33 #[rv la, iv (own_n ka), iv (own_n kb), iv (Lf ka), iv (Lf kb)] [(.int (Lf ka)), (.int (Lf 1))]) _
        refine XS.icmpYes X7.here hx rfl (pc0 := 33) (pc' := 41) rfl (hb hby d7_33) rfl (XT.ii_ne_t hc33_10) (by decide) (by decide) ?_
        refine XS.aloadN X7.here hx rfl (hb hby d7_41) rfl rfl ?_
        refine XT.iconstV X7.here hx rfl (2 : Int32) (hb hby d7_42) (by decide) ?_
        refine X7.iaload hx (j := (2 : Int32)) (v := (.int (Lf 2))) (by rw [e7]; exact Ar32.1) (State.isArrayOf_alike hZ.alike Ar32.2.1) Ar32.2.2 hin32 hat32 (g := (mkF m 43 #[rv la, iv (own_n ka), iv (own_n kb), iv (Lf ka), iv (Lf kb)] [(.int 2), (.ref la)])) rfl rfl (hb hby d7_43) _ ?_
        refine XS.iloadN X7.here hx rfl (hb hby d7_44) rfl ?_
        exact kz)
      by_cases hc45_34 : (Lf 2) = (Lf ka)
      · obtain ⟨cl35, Ar35, qk35, Sz35, Ng35, Hs35, Gs35⟩ := id V7
        have hin35 : ¬ ((2 : Int32) < 0 ∨ cl35.slots.size ≤ ((2 : Int32)).toNatClampNeg) := inb_of Sz35 ⟨by decide, by decide⟩
        obtain ⟨T36, h36, X36, e36, W36, st36⟩ := stI X7 hx hZ e7 Ar35 (j := (2 : Int32)) hin35 (g := (mkF m 52 #[rv la, iv (own_n ka), iv (own_n kb), iv (Lf ka), iv (Lf kb)] [(.int (Lf kb)), (.int 2), (.ref la)])) rfl rfl (hb hby d7_52)
        have N36 := Fr.snoc X36 N7 hgl
        have Z36 : n0 ≤ h36.size := Nat.le_trans Z7 (Nat.le_of_eq W36.size.symm)
        have K36 : Keep h0 h36 [la] := K7.wr W36 (Or.inl (List.mem_of_getElem? (i := 0) rfl))
        have V36 : Arv Z h36 la lk .int (4 : Int32) [(.int (Lf kb)), (.int (Lf 1)), (.int (Lf kb)), (.int (Lf 3))] (.int (0 : Int32)) := Arv.set Ar35 qk35 Sz35 Ng35 Hs35 Gs35 rfl W36 2 rfl (Nat.le_of_ble_eq_true rfl)
        obtain ⟨cl37, Ar37, qk37, Sz37, Ng37, Hs37, Gs37⟩ := id V36
        have hin37 : ¬ ((3 : Int32) < 0 ∨ cl37.slots.size ≤ ((3 : Int32)).toNatClampNeg) := inb_of Sz37 ⟨by decide, by decide⟩
        have hat37 : cl37.slots[((3 : Int32)).toNatClampNeg]? = some (.int (Lf 3)) := Hs37.at hin37 rfl
        have S38 : ∀ tz, oS p e below T36 (mkF m 57 #[rv la, iv (own_n ka), iv (own_n kb), iv (Lf ka), iv (Lf kb)] [(.int (Lf ka)), (.int (Lf 3))]) tz → oS p e below s₁ (mkF m 0 #[rv la, iv (own_n ka), iv (own_n kb), .unset, .unset] []) tz := fun tz kz => S33 tz (by
          show oS p e below T7 (mkF m 45 #[rv la, iv (own_n ka), iv (own_n kb), iv (Lf ka), iv (Lf kb)] [(.int (Lf ka)), (.int (Lf 2))]) _
          refine XS.icmpNo X7.here hx rfl (hb hby d7_45) rfl (XT.ii_ne_f hc45_34) ?_
          refine XS.aloadN X7.here hx rfl (hb hby d7_48) rfl rfl ?_
          refine XT.iconstV X7.here hx rfl (2 : Int32) (hb hby d7_49) (by decide) ?_
          show oS p e below T7 (mkF m 50 #[rv la, iv (own_n ka), iv (own_n kb), iv (Lf ka), iv (Lf kb)] [(.int 2), (.ref la)]) _
          refine XS.iload X7.here hx rfl (hb hby d7_50) rfl ?_
          refine st36 _ ?_
          refine XS.aloadN X36.here hx rfl (hb hby d7_53) rfl rfl ?_
          refine XT.iconstV X36.here hx rfl (3 : Int32) (hb hby d7_54) (by decide) ?_
          refine X36.iaload hx (j := (3 : Int32)) (v := (.int (Lf 3))) (by rw [e36]; exact Ar37.1) (State.isArrayOf_alike hZ.alike Ar37.2.1) Ar37.2.2 hin37 hat37 (g := (mkF m 55 #[rv la, iv (own_n ka), iv (own_n kb), iv (Lf ka), iv (Lf kb)] [(.int 3), (.ref la)])) rfl rfl (hb hby d7_55) _ ?_
          refine XS.iloadN X36.here hx rfl (hb hby d7_56) rfl ?_
          exact kz)
        by_cases hc57_39 : (Lf 3) = (Lf ka)
        · obtain ⟨cl40, Ar40, qk40, Sz40, Ng40, Hs40, Gs40⟩ := id V36
          have hin40 : ¬ ((3 : Int32) < 0 ∨ cl40.slots.size ≤ ((3 : Int32)).toNatClampNeg) := inb_of Sz40 ⟨by decide, by decide⟩
          obtain ⟨T41, h41, X41, e41, W41, st41⟩ := stI X36 hx hZ e36 Ar40 (j := (3 : Int32)) hin40 (g := (mkF m 64 #[rv la, iv (own_n ka), iv (own_n kb), iv (Lf ka), iv (Lf kb)] [(.int (Lf kb)), (.int 3), (.ref la)])) rfl rfl (hb hby d7_64)
          have N41 := Fr.snoc X41 N36 hgl
          have Z41 : n0 ≤ h41.size := Nat.le_trans Z36 (Nat.le_of_eq W41.size.symm)
          have K41 : Keep h0 h41 [la] := K36.wr W41 (Or.inl (List.mem_of_getElem? (i := 0) rfl))
          have V41 : Arv Z h41 la lk .int (4 : Int32) [(.int (Lf kb)), (.int (Lf 1)), (.int (Lf kb)), (.int (Lf kb))] (.int (0 : Int32)) := Arv.set Ar40 qk40 Sz40 Ng40 Hs40 Gs40 rfl W41 3 rfl (Nat.le_of_ble_eq_true rfl)
          have S42 : ∀ tz, oS p e below T41 (mkF m 66 #[rv la, iv (own_n ka), iv (own_n kb), iv (Lf ka), iv (Lf kb)] [(.int 1)]) tz → oS p e below s₁ (mkF m 0 #[rv la, iv (own_n ka), iv (own_n kb), .unset, .unset] []) tz := fun tz kz => S38 tz (by
            show oS p e below T36 (mkF m 57 #[rv la, iv (own_n ka), iv (own_n kb), iv (Lf ka), iv (Lf kb)] [(.int (Lf ka)), (.int (Lf 3))]) _
            refine XS.icmpNo X36.here hx rfl (hb hby d7_57) rfl (XT.ii_ne_f hc57_39) ?_
            refine XS.aloadN X36.here hx rfl (hb hby d7_60) rfl rfl ?_
            show oS p e below T36 (mkF m 61 #[rv la, iv (own_n ka), iv (own_n kb), iv (Lf ka), iv (Lf kb)] [(.ref la)]) _
            refine XT.iconstV X36.here hx rfl (3 : Int32) (hb hby d7_61) (by decide) ?_
            refine XS.iload X36.here hx rfl (hb hby d7_62) rfl ?_
            refine st41 _ ?_
            refine XT.iconstV X41.here hx rfl (1 : Int32) (hb hby d7_65) (by decide) ?_
            exact kz)
          obtain ⟨fs, hr, hrun, hended, hW, hsame⟩ := X41.leave (v := some (.int 1)) (fun h => by rw [Bd.returns] at h; cases h)
          refine ⟨_, _, pre0 _ (S42 _ ?_), hrun, hended, _, _, rfl, ?_, ⟨_, rfl⟩, hW, hsame.mono (by decide) (by decide)⟩
          · exact retN X41 hx (t := .boolean) Bd.returns (by simp) (hb hby d7_66) hr
          · show QrmRef1 Z la lk Lf ka kb h0 n0 _ T41.heap _
            rw [e41]
            exact ⟨rfl, N41, K41, own_l4 (g := own_L Lf (Lf ka) (Lf kb)) V41 (if_pos hc21_5) (if_neg hc33_10) (if_pos hc45_34) (if_pos hc57_39)⟩
        · have S43 : ∀ tz, oS p e below T36 (mkF m 66 #[rv la, iv (own_n ka), iv (own_n kb), iv (Lf ka), iv (Lf kb)] [(.int 1)]) tz → oS p e below s₁ (mkF m 0 #[rv la, iv (own_n ka), iv (own_n kb), .unset, .unset] []) tz := fun tz kz => S38 tz (by
            show oS p e below T36 (mkF m 57 #[rv la, iv (own_n ka), iv (own_n kb), iv (Lf ka), iv (Lf kb)] [(.int (Lf ka)), (.int (Lf 3))]) _
            refine XS.icmpYes X36.here hx rfl (pc0 := 57) (pc' := 65) rfl (hb hby d7_57) rfl (XT.ii_ne_t hc57_39) (by decide) (by decide) ?_
            refine XT.iconstV X36.here hx rfl (1 : Int32) (hb hby d7_65) (by decide) ?_
            show oS p e below T36 (mkF m 66 #[rv la, iv (own_n ka), iv (own_n kb), iv (Lf ka), iv (Lf kb)] [(.int 1)]) _
            exact kz)
          obtain ⟨fs, hr, hrun, hended, hW, hsame⟩ := X36.leave (v := some (.int 1)) (fun h => by rw [Bd.returns] at h; cases h)
          refine ⟨_, _, pre0 _ (S43 _ ?_), hrun, hended, _, _, rfl, ?_, ⟨_, rfl⟩, hW, hsame.mono (by decide) (by decide)⟩
          · exact retN X36 hx (t := .boolean) Bd.returns (by simp) (hb hby d7_66) hr
          · show QrmRef1 Z la lk Lf ka kb h0 n0 _ T36.heap _
            rw [e36]
            exact ⟨rfl, N36, K36, own_l4 (g := own_L Lf (Lf ka) (Lf kb)) V36 (if_pos hc21_5) (if_neg hc33_10) (if_pos hc45_34) (if_neg hc57_39)⟩
      · obtain ⟨cl44, Ar44, qk44, Sz44, Ng44, Hs44, Gs44⟩ := id V7
        have hin44 : ¬ ((3 : Int32) < 0 ∨ cl44.slots.size ≤ ((3 : Int32)).toNatClampNeg) := inb_of Sz44 ⟨by decide, by decide⟩
        have hat44 : cl44.slots[((3 : Int32)).toNatClampNeg]? = some (.int (Lf 3)) := Hs44.at hin44 rfl
        have S45 : ∀ tz, oS p e below T7 (mkF m 57 #[rv la, iv (own_n ka), iv (own_n kb), iv (Lf ka), iv (Lf kb)] [(.int (Lf ka)), (.int (Lf 3))]) tz → oS p e below s₁ (mkF m 0 #[rv la, iv (own_n ka), iv (own_n kb), .unset, .unset] []) tz := fun tz kz => S33 tz (by
          show oS p e below T7 (mkF m 45 #[rv la, iv (own_n ka), iv (own_n kb), iv (Lf ka), iv (Lf kb)] [(.int (Lf ka)), (.int (Lf 2))]) _
          refine XS.icmpYes X7.here hx rfl (pc0 := 45) (pc' := 53) rfl (hb hby d7_45) rfl (XT.ii_ne_t hc45_34) (by decide) (by decide) ?_
          refine XS.aloadN X7.here hx rfl (hb hby d7_53) rfl rfl ?_
          refine XT.iconstV X7.here hx rfl (3 : Int32) (hb hby d7_54) (by decide) ?_
          show oS p e below T7 (mkF m 55 #[rv la, iv (own_n ka), iv (own_n kb), iv (Lf ka), iv (Lf kb)] [(.int 3), (.ref la)]) _
          refine X7.iaload hx (j := (3 : Int32)) (v := (.int (Lf 3))) (by rw [e7]; exact Ar44.1) (State.isArrayOf_alike hZ.alike Ar44.2.1) Ar44.2.2 hin44 hat44 (g := (mkF m 55 #[rv la, iv (own_n ka), iv (own_n kb), iv (Lf ka), iv (Lf kb)] [(.int 3), (.ref la)])) rfl rfl (hb hby d7_55) _ ?_
          refine XS.iloadN X7.here hx rfl (hb hby d7_56) rfl ?_
          exact kz)
        by_cases hc57_46 : (Lf 3) = (Lf ka)
        · obtain ⟨cl47, Ar47, qk47, Sz47, Ng47, Hs47, Gs47⟩ := id V7
          have hin47 : ¬ ((3 : Int32) < 0 ∨ cl47.slots.size ≤ ((3 : Int32)).toNatClampNeg) := inb_of Sz47 ⟨by decide, by decide⟩
          obtain ⟨T48, h48, X48, e48, W48, st48⟩ := stI X7 hx hZ e7 Ar47 (j := (3 : Int32)) hin47 (g := (mkF m 64 #[rv la, iv (own_n ka), iv (own_n kb), iv (Lf ka), iv (Lf kb)] [(.int (Lf kb)), (.int 3), (.ref la)])) rfl rfl (hb hby d7_64)
          have N48 := Fr.snoc X48 N7 hgl
          have Z48 : n0 ≤ h48.size := Nat.le_trans Z7 (Nat.le_of_eq W48.size.symm)
          have K48 : Keep h0 h48 [la] := K7.wr W48 (Or.inl (List.mem_of_getElem? (i := 0) rfl))
          have V48 : Arv Z h48 la lk .int (4 : Int32) [(.int (Lf kb)), (.int (Lf 1)), (.int (Lf 2)), (.int (Lf kb))] (.int (0 : Int32)) := Arv.set Ar47 qk47 Sz47 Ng47 Hs47 Gs47 rfl W48 3 rfl (Nat.le_of_ble_eq_true rfl)
          have S49 : ∀ tz, oS p e below T48 (mkF m 66 #[rv la, iv (own_n ka), iv (own_n kb), iv (Lf ka), iv (Lf kb)] [(.int 1)]) tz → oS p e below s₁ (mkF m 0 #[rv la, iv (own_n ka), iv (own_n kb), .unset, .unset] []) tz := fun tz kz => S45 tz (by
            show oS p e below T7 (mkF m 57 #[rv la, iv (own_n ka), iv (own_n kb), iv (Lf ka), iv (Lf kb)] [(.int (Lf ka)), (.int (Lf 3))]) _
            refine XS.icmpNo X7.here hx rfl (hb hby d7_57) rfl (XT.ii_ne_f hc57_46) ?_
            refine XS.aloadN X7.here hx rfl (hb hby d7_60) rfl rfl ?_
            refine XT.iconstV X7.here hx rfl (3 : Int32) (hb hby d7_61) (by decide) ?_
            refine XS.iload X7.here hx rfl (hb hby d7_62) rfl ?_
            refine st48 _ ?_
            refine XT.iconstV X48.here hx rfl (1 : Int32) (hb hby d7_65) (by decide) ?_
            show oS p e below T48 (mkF m 66 #[rv la, iv (own_n ka), iv (own_n kb), iv (Lf ka), iv (Lf kb)] [(.int 1)]) _
            exact kz)
          obtain ⟨fs, hr, hrun, hended, hW, hsame⟩ := X48.leave (v := some (.int 1)) (fun h => by rw [Bd.returns] at h; cases h)
          refine ⟨_, _, pre0 _ (S49 _ ?_), hrun, hended, _, _, rfl, ?_, ⟨_, rfl⟩, hW, hsame.mono (by decide) (by decide)⟩
          · exact retN X48 hx (t := .boolean) Bd.returns (by simp) (hb hby d7_66) hr
          · show QrmRef1 Z la lk Lf ka kb h0 n0 _ T48.heap _
            rw [e48]
            exact ⟨rfl, N48, K48, own_l4 (g := own_L Lf (Lf ka) (Lf kb)) V48 (if_pos hc21_5) (if_neg hc33_10) (if_neg hc45_34) (if_pos hc57_46)⟩
        · have S50 : ∀ tz, oS p e below T7 (mkF m 66 #[rv la, iv (own_n ka), iv (own_n kb), iv (Lf ka), iv (Lf kb)] [(.int 1)]) tz → oS p e below s₁ (mkF m 0 #[rv la, iv (own_n ka), iv (own_n kb), .unset, .unset] []) tz := fun tz kz => S45 tz (by
            show oS p e below T7 (mkF m 57 #[rv la, iv (own_n ka), iv (own_n kb), iv (Lf ka), iv (Lf kb)] [(.int (Lf ka)), (.int (Lf 3))]) _
            refine XS.icmpYes X7.here hx rfl (pc0 := 57) (pc' := 65) rfl (hb hby d7_57) rfl (XT.ii_ne_t hc57_46) (by decide) (by decide) ?_
            refine XT.iconstV X7.here hx rfl (1 : Int32) (hb hby d7_65) (by decide) ?_
            exact kz)
          obtain ⟨fs, hr, hrun, hended, hW, hsame⟩ := X7.leave (v := some (.int 1)) (fun h => by rw [Bd.returns] at h; cases h)
          refine ⟨_, _, pre0 _ (S50 _ ?_), hrun, hended, _, _, rfl, ?_, ⟨_, rfl⟩, hW, hsame.mono (by decide) (by decide)⟩
          · exact retN X7 hx (t := .boolean) Bd.returns (by simp) (hb hby d7_66) hr
          · show QrmRef1 Z la lk Lf ka kb h0 n0 _ T7.heap _
            rw [e7]
            exact ⟨rfl, N7, K7, own_l4 (g := own_L Lf (Lf ka) (Lf kb)) V7 (if_pos hc21_5) (if_neg hc33_10) (if_neg hc45_34) (if_neg hc57_46)⟩
  · obtain ⟨cl51, Ar51, qk51, Sz51, Ng51, Hs51, Gs51⟩ := id hB
    have hin51 : ¬ ((1 : Int32) < 0 ∨ cl51.slots.size ≤ ((1 : Int32)).toNatClampNeg) := inb_of Sz51 ⟨by decide, by decide⟩
    have hat51 : cl51.slots[((1 : Int32)).toNatClampNeg]? = some (.int (Lf 1)) := Hs51.at hin51 rfl
    have S52 : ∀ tz, oS p e below s₁ (mkF m 33 #[rv la, iv (own_n ka), iv (own_n kb), iv (Lf ka), iv (Lf kb)] [(.int (Lf ka)), (.int (Lf 1))]) tz → oS p e below s₁ (mkF m 0 #[rv la, iv (own_n ka), iv (own_n kb), .unset, .unset] []) tz := fun tz kz => S4 tz (by
      show oS p e below s₁ (mkF m 21 #[rv la, iv (own_n ka), iv (own_n kb), iv (Lf ka), iv (Lf kb)] [(.int (Lf ka)), (.int (Lf 0))]) _
      refine XS.icmpYes X0.here hx rfl (pc0 := 21) (pc' := 29) rfl (hb hby d7_21) rfl (XT.ii_ne_t hc21_5) (by decide) (by decide) ?_
      show oS p e below s₁ (mkF m 29 #[rv la, iv (own_n ka), iv (own_n kb), iv (Lf ka), iv (Lf kb)] []) _
      refine XS.aloadN X0.here hx rfl (hb hby d7_29) rfl rfl ?_
      refine XT.iconstV X0.here hx rfl (1 : Int32) (hb hby d7_30) (by decide) ?_
      refine X0.iaload hx (j := (1 : Int32)) (v := (.int (Lf 1))) (by rw [e0]; exact Ar51.1) (State.isArrayOf_alike hZ.alike Ar51.2.1) Ar51.2.2 hin51 hat51 (g := (mkF m 31 #[rv la, iv (own_n ka), iv (own_n kb), iv (Lf ka), iv (Lf kb)] [(.int 1), (.ref la)])) rfl rfl (hb hby d7_31) _ ?_
      refine XS.iloadN X0.here hx rfl (hb hby d7_32) rfl ?_
      exact kz)
    by_cases hc33_53 : (Lf 1) = (Lf ka)
    · obtain ⟨cl54, Ar54, qk54, Sz54, Ng54, Hs54, Gs54⟩ := id hB
      have hin54 : ¬ ((1 : Int32) < 0 ∨ cl54.slots.size ≤ ((1 : Int32)).toNatClampNeg) := inb_of Sz54 ⟨by decide, by decide⟩
      obtain ⟨T55, h55, X55, e55, W55, st55⟩ := stI X0 hx hZ e0 Ar54 (j := (1 : Int32)) hin54 (g := (mkF m 40 #[rv la, iv (own_n ka), iv (own_n kb), iv (Lf ka), iv (Lf kb)] [(.int (Lf kb)), (.int 1), (.ref la)])) rfl rfl (hb hby d7_40)
      have N55 := Fr.snoc X55 N0 hgl
      have Z55 : n0 ≤ h55.size := Nat.le_trans Z0 (Nat.le_of_eq W55.size.symm)
      have K55 : Keep h0 h55 [la] := (Keep.refl h0 [la]).wr W55 (Or.inl (List.mem_of_getElem? (i := 0) rfl))
      have V55 : Arv Z h55 la lk .int (4 : Int32) [(.int (Lf 0)), (.int (Lf kb)), (.int (Lf 2)), (.int (Lf 3))] (.int (0 : Int32)) := Arv.set Ar54 qk54 Sz54 Ng54 Hs54 Gs54 rfl W55 1 rfl (Nat.le_of_ble_eq_true rfl)
      obtain ⟨cl56, Ar56, qk56, Sz56, Ng56, Hs56, Gs56⟩ := id V55
      have hin56 : ¬ ((2 : Int32) < 0 ∨ cl56.slots.size ≤ ((2 : Int32)).toNatClampNeg) := inb_of Sz56 ⟨by decide, by decide⟩
      have hat56 : cl56.slots[((2 : Int32)).toNatClampNeg]? = some (.int (Lf 2)) := Hs56.at hin56 rfl
      have S57 : ∀ tz, oS p e below T55 (mkF m 45 #[rv la, iv (own_n ka), iv (own_n kb), iv (Lf ka), iv (Lf kb)] [(.int (Lf ka)), (.int (Lf 2))]) tz → oS p e below s₁ (mkF m 0 #[rv la, iv (own_n ka), iv (own_n kb), .unset, .unset] []) tz := fun tz kz => S52 tz (by
        show oS p e below s₁ (mkF m 33 #[rv la, iv (own_n ka), iv (own_n kb), iv (Lf ka), iv (Lf kb)] [(.int (Lf ka)), (.int (Lf 1))]) _
        refine XS.icmpNo X0.here hx rfl (hb hby d7_33) rfl (XT.ii_ne_f hc33_53) ?_
        refine XS.aloadN X0.here hx rfl (hb hby d7_36) rfl rfl ?_
        refine XT.iconstV X0.here hx rfl (1 : Int32) (hb hby d7_37) (by decide) ?_
        refine XS.iload X0.here hx rfl (hb hby d7_38) rfl ?_
        show oS p e below s₁ (mkF m 40 #[rv la, iv (own_n ka), iv (own_n kb), iv (Lf ka), iv (Lf kb)] [(.int (Lf kb)), (.int 1), (.ref la)]) _
        refine st55 _ ?_
        refine XS.aloadN X55.here hx rfl (hb hby d7_41) rfl rfl ?_
        refine XT.iconstV X55.here hx rfl (2 : Int32) (hb hby d7_42) (by decide) ?_
        refine X55.iaload hx (j := (2 : Int32)) (v := (.int (Lf 2))) (by rw [e55]; exact Ar56.1) (State.isArrayOf_alike hZ.alike Ar56.2.1) Ar56.2.2 hin56 hat56 (g := (mkF m 43 #[rv la, iv (own_n ka), iv (own_n kb), iv (Lf ka), iv (Lf kb)] [(.int 2), (.ref la)])) rfl rfl (hb hby d7_43) _ ?_
        refine XS.iloadN X55.here hx rfl (hb hby d7_44) rfl ?_
        exact kz)
      by_cases hc45_58 : (Lf 2) = (Lf ka)
      · obtain ⟨cl59, Ar59, qk59, Sz59, Ng59, Hs59, Gs59⟩ := id V55
        have hin59 : ¬ ((2 : Int32) < 0 ∨ cl59.slots.size ≤ ((2 : Int32)).toNatClampNeg) := inb_of Sz59 ⟨by decide, by decide⟩
        obtain ⟨T60, h60, X60, e60, W60, st60⟩ := stI X55 hx hZ e55 Ar59 (j := (2 : Int32)) hin59 (g := (mkF m 52 #[rv la, iv (own_n ka), iv (own_n kb), iv (Lf ka), iv (Lf kb)] [(.int (Lf kb)), (.int 2), (.ref la)])) rfl rfl (hb hby d7_52)
        have N60 := Fr.snoc X60 N55 hgl
        have Z60 : n0 ≤ h60.size := Nat.le_trans Z55 (Nat.le_of_eq W60.size.symm)
        have K60 : Keep h0 h60 [la] := K55.wr W60 (Or.inl (List.mem_of_getElem? (i := 0) rfl))
        have V60 : Arv Z h60 la lk .int (4 : Int32) [(.int (Lf 0)), (.int (Lf kb)), (.int (Lf kb)), (.int (Lf 3))] (.int (0 : Int32)) := Arv.set Ar59 qk59 Sz59 Ng59 Hs59 Gs59 rfl W60 2 rfl (Nat.le_of_ble_eq_true rfl)
        obtain ⟨cl61, Ar61, qk61, Sz61, Ng61, Hs61, Gs61⟩ := id V60
        have hin61 : ¬ ((3 : Int32) < 0 ∨ cl61.slots.size ≤ ((3 : Int32)).toNatClampNeg) := inb_of Sz61 ⟨by decide, by decide⟩
        have hat61 : cl61.slots[((3 : Int32)).toNatClampNeg]? = some (.int (Lf 3)) := Hs61.at hin61 rfl
        have S62 : ∀ tz, oS p e below T60 (mkF m 57 #[rv la, iv (own_n ka), iv (own_n kb), iv (Lf ka), iv (Lf kb)] [(.int (Lf ka)), (.int (Lf 3))]) tz → oS p e below s₁ (mkF m 0 #[rv la, iv (own_n ka), iv (own_n kb), .unset, .unset] []) tz := fun tz kz => S57 tz (by
          show oS p e below T55 (mkF m 45 #[rv la, iv (own_n ka), iv (own_n kb), iv (Lf ka), iv (Lf kb)] [(.int (Lf ka)), (.int (Lf 2))]) _
          refine XS.icmpNo X55.here hx rfl (hb hby d7_45) rfl (XT.ii_ne_f hc45_58) ?_
          refine XS.aloadN X55.here hx rfl (hb hby d7_48) rfl rfl ?_
          refine XT.iconstV X55.here hx rfl (2 : Int32) (hb hby d7_49) (by decide) ?_
          show oS p e below T55 (mkF m 50 #[rv la, iv (own_n ka), iv (own_n kb), iv (Lf ka), iv (Lf kb)] [(.int 2), (.ref la)]) _
          refine XS.iload X55.here hx rfl (hb hby d7_50) rfl ?_
          refine st60 _ ?_
          refine XS.aloadN X60.here hx rfl (hb hby d7_53) rfl rfl ?_
          refine XT.iconstV X60.here hx rfl (3 : Int32) (hb hby d7_54) (by decide) ?_
          refine X60.iaload hx (j := (3 : Int32)) (v := (.int (Lf 3))) (by rw [e60]; exact Ar61.1) (State.isArrayOf_alike hZ.alike Ar61.2.1) Ar61.2.2 hin61 hat61 (g := (mkF m 55 #[rv la, iv (own_n ka), iv (own_n kb), iv (Lf ka), iv (Lf kb)] [(.int 3), (.ref la)])) rfl rfl (hb hby d7_55) _ ?_
          refine XS.iloadN X60.here hx rfl (hb hby d7_56) rfl ?_
          exact kz)
        by_cases hc57_63 : (Lf 3) = (Lf ka)
        · obtain ⟨cl64, Ar64, qk64, Sz64, Ng64, Hs64, Gs64⟩ := id V60
          have hin64 : ¬ ((3 : Int32) < 0 ∨ cl64.slots.size ≤ ((3 : Int32)).toNatClampNeg) := inb_of Sz64 ⟨by decide, by decide⟩
          obtain ⟨T65, h65, X65, e65, W65, st65⟩ := stI X60 hx hZ e60 Ar64 (j := (3 : Int32)) hin64 (g := (mkF m 64 #[rv la, iv (own_n ka), iv (own_n kb), iv (Lf ka), iv (Lf kb)] [(.int (Lf kb)), (.int 3), (.ref la)])) rfl rfl (hb hby d7_64)
          have N65 := Fr.snoc X65 N60 hgl
          have Z65 : n0 ≤ h65.size := Nat.le_trans Z60 (Nat.le_of_eq W65.size.symm)
          have K65 : Keep h0 h65 [la] := K60.wr W65 (Or.inl (List.mem_of_getElem? (i := 0) rfl))
          have V65 : Arv Z h65 la lk .int (4 : Int32) [(.int (Lf 0)), (.int (Lf kb)), (.int (Lf kb)), (.int (Lf kb))] (.int (0 : Int32)) := Arv.set Ar64 qk64 Sz64 Ng64 Hs64 Gs64 rfl W65 3 rfl (Nat.le_of_ble_eq_true rfl)
          have S66 : ∀ tz, oS p e below T65 (mkF m 66 #[rv la, iv (own_n ka), iv (own_n kb), iv (Lf ka), iv (Lf kb)] [(.int 1)]) tz → oS p e below s₁ (mkF m 0 #[rv la, iv (own_n ka), iv (own_n kb), .unset, .unset] []) tz := fun tz kz => S62 tz (by
            show oS p e below T60 (mkF m 57 #[rv la, iv (own_n ka), iv (own_n kb), iv (Lf ka), iv (Lf kb)] [(.int (Lf ka)), (.int (Lf 3))]) _
            refine XS.icmpNo X60.here hx rfl (hb hby d7_57) rfl (XT.ii_ne_f hc57_63) ?_
            refine XS.aloadN X60.here hx rfl (hb hby d7_60) rfl rfl ?_
            show oS p e below T60 (mkF m 61 #[rv la, iv (own_n ka), iv (own_n kb), iv (Lf ka), iv (Lf kb)] [(.ref la)]) _
            refine XT.iconstV X60.here hx rfl (3 : Int32) (hb hby d7_61) (by decide) ?_
            refine XS.iload X60.here hx rfl (hb hby d7_62) rfl ?_
            refine st65 _ ?_
            refine XT.iconstV X65.here hx rfl (1 : Int32) (hb hby d7_65) (by decide) ?_
            exact kz)
          obtain ⟨fs, hr, hrun, hended, hW, hsame⟩ := X65.leave (v := some (.int 1)) (fun h => by rw [Bd.returns] at h; cases h)
          refine ⟨_, _, pre0 _ (S66 _ ?_), hrun, hended, _, _, rfl, ?_, ⟨_, rfl⟩, hW, hsame.mono (by decide) (by decide)⟩
          · exact retN X65 hx (t := .boolean) Bd.returns (by simp) (hb hby d7_66) hr
          · show QrmRef1 Z la lk Lf ka kb h0 n0 _ T65.heap _
            rw [e65]
            exact ⟨rfl, N65, K65, own_l4 (g := own_L Lf (Lf ka) (Lf kb)) V65 (if_neg hc21_5) (if_pos hc33_53) (if_pos hc45_58) (if_pos hc57_63)⟩
        · have S67 : ∀ tz, oS p e below T60 (mkF m 66 #[rv la, iv (own_n ka), iv (own_n kb), iv (Lf ka), iv (Lf kb)] [(.int 1)]) tz → oS p e below s₁ (mkF m 0 #[rv la, iv (own_n ka), iv (own_n kb), .unset, .unset] []) tz := fun tz kz => S62 tz (by
            show oS p e below T60 (mkF m 57 #[rv la, iv (own_n ka), iv (own_n kb), iv (Lf ka), iv (Lf kb)] [(.int (Lf ka)), (.int (Lf 3))]) _
            refine XS.icmpYes X60.here hx rfl (pc0 := 57) (pc' := 65) rfl (hb hby d7_57) rfl (XT.ii_ne_t hc57_63) (by decide) (by decide) ?_
            refine XT.iconstV X60.here hx rfl (1 : Int32) (hb hby d7_65) (by decide) ?_
            show oS p e below T60 (mkF m 66 #[rv la, iv (own_n ka), iv (own_n kb), iv (Lf ka), iv (Lf kb)] [(.int 1)]) _
            exact kz)
          obtain ⟨fs, hr, hrun, hended, hW, hsame⟩ := X60.leave (v := some (.int 1)) (fun h => by rw [Bd.returns] at h; cases h)
          refine ⟨_, _, pre0 _ (S67 _ ?_), hrun, hended, _, _, rfl, ?_, ⟨_, rfl⟩, hW, hsame.mono (by decide) (by decide)⟩
          · exact retN X60 hx (t := .boolean) Bd.returns (by simp) (hb hby d7_66) hr
          · show QrmRef1 Z la lk Lf ka kb h0 n0 _ T60.heap _
            rw [e60]
            exact ⟨rfl, N60, K60, own_l4 (g := own_L Lf (Lf ka) (Lf kb)) V60 (if_neg hc21_5) (if_pos hc33_53) (if_pos hc45_58) (if_neg hc57_63)⟩
      · obtain ⟨cl68, Ar68, qk68, Sz68, Ng68, Hs68, Gs68⟩ := id V55
        have hin68 : ¬ ((3 : Int32) < 0 ∨ cl68.slots.size ≤ ((3 : Int32)).toNatClampNeg) := inb_of Sz68 ⟨by decide, by decide⟩
        have hat68 : cl68.slots[((3 : Int32)).toNatClampNeg]? = some (.int (Lf 3)) := Hs68.at hin68 rfl
        have S69 : ∀ tz, oS p e below T55 (mkF m 57 #[rv la, iv (own_n ka), iv (own_n kb), iv (Lf ka), iv (Lf kb)] [(.int (Lf ka)), (.int (Lf 3))]) tz → oS p e below s₁ (mkF m 0 #[rv la, iv (own_n ka), iv (own_n kb), .unset, .unset] []) tz := fun tz kz => S57 tz (by
          show oS p e below T55 (mkF m 45 #[rv la, iv (own_n ka), iv (own_n kb), iv (Lf ka), iv (Lf kb)] [(.int (Lf ka)), (.int (Lf 2))]) _
          refine XS.icmpYes X55.here hx rfl (pc0 := 45) (pc' := 53) rfl (hb hby d7_45) rfl (XT.ii_ne_t hc45_58) (by decide) (by decide) ?_
          refine XS.aloadN X55.here hx rfl (hb hby d7_53) rfl rfl ?_
          refine XT.iconstV X55.here hx rfl (3 : Int32) (hb hby d7_54) (by decide) ?_
          show oS p e below T55 (mkF m 55 #[rv la, iv (own_n ka), iv (own_n kb), iv (Lf ka), iv (Lf kb)] [(.int 3), (.ref la)]) _
          refine X55.iaload hx (j := (3 : Int32)) (v := (.int (Lf 3))) (by rw [e55]; exact Ar68.1) (State.isArrayOf_alike hZ.alike Ar68.2.1) Ar68.2.2 hin68 hat68 (g := (mkF m 55 #[rv la, iv (own_n ka), iv (own_n kb), iv (Lf ka), iv (Lf kb)] [(.int 3), (.ref la)])) rfl rfl (hb hby d7_55) _ ?_
          refine XS.iloadN X55.here hx rfl (hb hby d7_56) rfl ?_
          exact kz)
        by_cases hc57_70 : (Lf 3) = (Lf ka)
        · obtain ⟨cl71, Ar71, qk71, Sz71, Ng71, Hs71, Gs71⟩ := id V55
          have hin71 : ¬ ((3 : Int32) < 0 ∨ cl71.slots.size ≤ ((3 : Int32)).toNatClampNeg) := inb_of Sz71 ⟨by decide, by decide⟩
          obtain ⟨T72, h72, X72, e72, W72, st72⟩ := stI X55 hx hZ e55 Ar71 (j := (3 : Int32)) hin71 (g := (mkF m 64 #[rv la, iv (own_n ka), iv (own_n kb), iv (Lf ka), iv (Lf kb)] [(.int (Lf kb)), (.int 3), (.ref la)])) rfl rfl (hb hby d7_64)
          have N72 := Fr.snoc X72 N55 hgl
          have Z72 : n0 ≤ h72.size := Nat.le_trans Z55 (Nat.le_of_eq W72.size.symm)
          have K72 : Keep h0 h72 [la] := K55.wr W72 (Or.inl (List.mem_of_getElem? (i := 0) rfl))
          have V72 : Arv Z h72 la lk .int (4 : Int32) [(.int (Lf 0)), (.int (Lf kb)), (.int (Lf 2)), (.int (Lf kb))] (.int (0 : Int32)) := Arv.set Ar71 qk71 Sz71 Ng71 Hs71 Gs71 rfl W72 3 rfl (Nat.le_of_ble_eq_true rfl)
          have S73 : ∀ tz, oS p e below T72 (mkF m 66 #[rv la, iv (own_n ka), iv (own_n kb), iv (Lf ka), iv (Lf kb)] [(.int 1)]) tz → oS p e below s₁ (mkF m 0 #[rv la, iv (own_n ka), iv (own_n kb), .unset, .unset] []) tz := fun tz kz => S69 tz (by
            show oS p e below T55 (mkF m 57 #[rv la, iv (own_n ka), iv (own_n kb), iv (Lf ka), iv (Lf kb)] [(.int (Lf ka)), (.int (Lf 3))]) _
            refine XS.icmpNo X55.here hx rfl (hb hby d7_57) rfl (XT.ii_ne_f hc57_70) ?_
            refine XS.aloadN X55.here hx rfl (hb hby d7_60) rfl rfl ?_
            refine XT.iconstV X55.here hx rfl (3 : Int32) (hb hby d7_61) (by decide) ?_
            refine XS.iload X55.here hx rfl (hb hby d7_62) rfl ?_
            refine st72 _ ?_
            refine XT.iconstV X72.here hx rfl (1 : Int32) (hb hby d7_65) (by decide) ?_
            show oS p e below T72 (mkF m 66 #[rv la, iv (own_n ka), iv (own_n kb), iv (Lf ka), iv (Lf kb)] [(.int 1)]) _
            exact kz)
          obtain ⟨fs, hr, hrun, hended, hW, hsame⟩ := X72.leave (v := some (.int 1)) (fun h => by rw [Bd.returns] at h; cases h)
          refine ⟨_, _, pre0 _ (S73 _ ?_), hrun, hended, _, _, rfl, ?_, ⟨_, rfl⟩, hW, hsame.mono (by decide) (by decide)⟩
          · exact retN X72 hx (t := .boolean) Bd.returns (by simp) (hb hby d7_66) hr
          · show QrmRef1 Z la lk Lf ka kb h0 n0 _ T72.heap _
            rw [e72]
            exact ⟨rfl, N72, K72, own_l4 (g := own_L Lf (Lf ka) (Lf kb)) V72 (if_neg hc21_5) (if_pos hc33_53) (if_neg hc45_58) (if_pos hc57_70)⟩
        · have S74 : ∀ tz, oS p e below T55 (mkF m 66 #[rv la, iv (own_n ka), iv (own_n kb), iv (Lf ka), iv (Lf kb)] [(.int 1)]) tz → oS p e below s₁ (mkF m 0 #[rv la, iv (own_n ka), iv (own_n kb), .unset, .unset] []) tz := fun tz kz => S69 tz (by
            show oS p e below T55 (mkF m 57 #[rv la, iv (own_n ka), iv (own_n kb), iv (Lf ka), iv (Lf kb)] [(.int (Lf ka)), (.int (Lf 3))]) _
            refine XS.icmpYes X55.here hx rfl (pc0 := 57) (pc' := 65) rfl (hb hby d7_57) rfl (XT.ii_ne_t hc57_70) (by decide) (by decide) ?_
            refine XT.iconstV X55.here hx rfl (1 : Int32) (hb hby d7_65) (by decide) ?_
            exact kz)
          obtain ⟨fs, hr, hrun, hended, hW, hsame⟩ := X55.leave (v := some (.int 1)) (fun h => by rw [Bd.returns] at h; cases h)
          refine ⟨_, _, pre0 _ (S74 _ ?_), hrun, hended, _, _, rfl, ?_, ⟨_, rfl⟩, hW, hsame.mono (by decide) (by decide)⟩
          · exact retN X55 hx (t := .boolean) Bd.returns (by simp) (hb hby d7_66) hr
          · show QrmRef1 Z la lk Lf ka kb h0 n0 _ T55.heap _
            rw [e55]
            exact ⟨rfl, N55, K55, own_l4 (g := own_L Lf (Lf ka) (Lf kb)) V55 (if_neg hc21_5) (if_pos hc33_53) (if_neg hc45_58) (if_neg hc57_70)⟩
    · obtain ⟨cl75, Ar75, qk75, Sz75, Ng75, Hs75, Gs75⟩ := id hB
      have hin75 : ¬ ((2 : Int32) < 0 ∨ cl75.slots.size ≤ ((2 : Int32)).toNatClampNeg) := inb_of Sz75 ⟨by decide, by decide⟩
      have hat75 : cl75.slots[((2 : Int32)).toNatClampNeg]? = some (.int (Lf 2)) := Hs75.at hin75 rfl
      have S76 : ∀ tz, oS p e below s₁ (mkF m 45 #[rv la, iv (own_n ka), iv (own_n kb), iv (Lf ka), iv (Lf kb)] [(.int (Lf ka)), (.int (Lf 2))]) tz → oS p e below s₁ (mkF m 0 #[rv la, iv (own_n ka), iv (own_n kb), .unset, .unset] []) tz := fun tz kz => S52 tz (by
        show oS p e below s₁ (mkF m 33 #[rv la, iv (own_n ka), iv (own_n kb), iv (Lf ka), iv (Lf kb)] [(.int (Lf ka)), (.int (Lf 1))]) _
        refine XS.icmpYes X0.here hx rfl (pc0 := 33) (pc' := 41) rfl (hb hby d7_33) rfl (XT.ii_ne_t hc33_53) (by decide) (by decide) ?_
        refine XS.aloadN X0.here hx rfl (hb hby d7_41) rfl rfl ?_
        refine XT.iconstV X0.here hx rfl (2 : Int32) (hb hby d7_42) (by decide) ?_
        refine X0.iaload hx (j := (2 : Int32)) (v := (.int (Lf 2))) (by rw [e0]; exact Ar75.1) (State.isArrayOf_alike hZ.alike Ar75.2.1) Ar75.2.2 hin75 hat75 (g := (mkF m 43 #[rv la, iv (own_n ka), iv (own_n kb), iv (Lf ka), iv (Lf kb)] [(.int 2), (.ref la)])) rfl rfl (hb hby d7_43) _ ?_
        show oS p e below s₁ (mkF m 44 #[rv la, iv (own_n ka), iv (own_n kb), iv (Lf ka), iv (Lf kb)] [(.int (Lf 2))]) _
        refine XS.iloadN X0.here hx rfl (hb hby d7_44) rfl ?_
        exact kz)
      by_cases hc45_77 : (Lf 2) = (Lf ka)
      · obtain ⟨cl78, Ar78, qk78, Sz78, Ng78, Hs78, Gs78⟩ := id hB
        have hin78 : ¬ ((2 : Int32) < 0 ∨ cl78.slots.size ≤ ((2 : Int32)).toNatClampNeg) := inb_of Sz78 ⟨by decide, by decide⟩
        obtain ⟨T79, h79, X79, e79, W79, st79⟩ := stI X0 hx hZ e0 Ar78 (j := (2 : Int32)) hin78 (g := (mkF m 52 #[rv la, iv (own_n ka), iv (own_n kb), iv (Lf ka), iv (Lf kb)] [(.int (Lf kb)), (.int 2), (.ref la)])) rfl rfl (hb hby d7_52)
        have N79 := Fr.snoc X79 N0 hgl
        have Z79 : n0 ≤ h79.size := Nat.le_trans Z0 (Nat.le_of_eq W79.size.symm)
        have K79 : Keep h0 h79 [la] := (Keep.refl h0 [la]).wr W79 (Or.inl (List.mem_of_getElem? (i := 0) rfl))
        have V79 : Arv Z h79 la lk .int (4 : Int32) [(.int (Lf 0)), (.int (Lf 1)), (.int (Lf kb)), (.int (Lf 3))] (.int (0 : Int32)) := Arv.set Ar78 qk78 Sz78 Ng78 Hs78 Gs78 rfl W79 2 rfl (Nat.le_of_ble_eq_true rfl)
        obtain ⟨cl80, Ar80, qk80, Sz80, Ng80, Hs80, Gs80⟩ := id V79
        have hin80 : ¬ ((3 : Int32) < 0 ∨ cl80.slots.size ≤ ((3 : Int32)).toNatClampNeg) := inb_of Sz80 ⟨by decide, by decide⟩
        have hat80 : cl80.slots[((3 : Int32)).toNatClampNeg]? = some (.int (Lf 3)) := Hs80.at hin80 rfl
        have S81 : ∀ tz, oS p e below T79 (mkF m 57 #[rv la, iv (own_n ka), iv (own_n kb), iv (Lf ka), iv (Lf kb)] [(.int (Lf ka)), (.int (Lf 3))]) tz → oS p e below s₁ (mkF m 0 #[rv la, iv (own_n ka), iv (own_n kb), .unset, .unset] []) tz := fun tz kz => S76 tz (by
          show oS p e below s₁ (mkF m 45 #[rv la, iv (own_n ka), iv (own_n kb), iv (Lf ka), iv (Lf kb)] [(.int (Lf ka)), (.int (Lf 2))]) _
          refine XS.icmpNo X0.here hx rfl (hb hby d7_45) rfl (XT.ii_ne_f hc45_77) ?_
          refine XS.aloadN X0.here hx rfl (hb hby d7_48) rfl rfl ?_
          refine XT.iconstV X0.here hx rfl (2 : Int32) (hb hby d7_49) (by decide) ?_
          refine XS.iload X0.here hx rfl (hb hby d7_50) rfl ?_
          refine st79 _ ?_
          refine XS.aloadN X79.here hx rfl (hb hby d7_53) rfl rfl ?_
          refine XT.iconstV X79.here hx rfl (3 : Int32) (hb hby d7_54) (by decide) ?_
          show oS p e below T79 (mkF m 55 #[rv la, iv (own_n ka), iv (own_n kb), iv (Lf ka), iv (Lf kb)] [(.int 3), (.ref la)]) _
          refine X79.iaload hx (j := (3 : Int32)) (v := (.int (Lf 3))) (by rw [e79]; exact Ar80.1) (State.isArrayOf_alike hZ.alike Ar80.2.1) Ar80.2.2 hin80 hat80 (g := (mkF m 55 #[rv la, iv (own_n ka), iv (own_n kb), iv (Lf ka), iv (Lf kb)] [(.int 3), (.ref la)])) rfl rfl (hb hby d7_55) _ ?_
          refine XS.iloadN X79.here hx rfl (hb hby d7_56) rfl ?_
          exact kz)
        by_cases hc57_82 : (Lf 3) = (Lf ka)
        · obtain ⟨cl83, Ar83, qk83, Sz83, Ng83, Hs83, Gs83⟩ := id V79
          have hin83 : ¬ ((3 : Int32) < 0 ∨ cl83.slots.size ≤ ((3 : Int32)).toNatClampNeg) := inb_of Sz83 ⟨by decide, by decide⟩
          obtain ⟨T84, h84, X84, e84, W84, st84⟩ := stI X79 hx hZ e79 Ar83 (j := (3 : Int32)) hin83 (g := (mkF m 64 #[rv la, iv (own_n ka), iv (own_n kb), iv (Lf ka), iv (Lf kb)] [(.int (Lf kb)), (.int 3), (.ref la)])) rfl rfl (hb hby d7_64)
          have N84 := Fr.snoc X84 N79 hgl
          have Z84 : n0 ≤ h84.size := Nat.le_trans Z79 (Nat.le_of_eq W84.size.symm)
          have K84 : Keep h0 h84 [la] := K79.wr W84 (Or.inl (List.mem_of_getElem? (i := 0) rfl))
          have V84 : Arv Z h84 la lk .int (4 : Int32) [(.int (Lf 0)), (.int (Lf 1)), (.int (Lf kb)), (.int (Lf kb))] (.int (0 : Int32)) := Arv.set Ar83 qk83 Sz83 Ng83 Hs83 Gs83 rfl W84 3 rfl (Nat.le_of_ble_eq_true rfl)
          have S85 : ∀ tz, oS p e below T84 (mkF m 66 #[rv la, iv (own_n ka), iv (own_n kb), iv (Lf ka), iv (Lf kb)] [(.int 1)]) tz → oS p e below s₁ (mkF m 0 #[rv la, iv (own_n ka), iv (own_n kb), .unset, .unset] []) tz := fun tz kz => S81 tz (by
            show oS p e below T79 (mkF m 57 #[rv la, iv (own_n ka), iv (own_n kb), iv (Lf ka), iv (Lf kb)] [(.int (Lf ka)), (.int (Lf 3))]) _
            refine XS.icmpNo X79.here hx rfl (hb hby d7_57) rfl (XT.ii_ne_f hc57_82) ?_
            refine XS.aloadN X79.here hx rfl (hb hby d7_60) rfl rfl ?_
            refine XT.iconstV X79.here hx rfl (3 : Int32) (hb hby d7_61) (by decide) ?_
            refine XS.iload X79.here hx rfl (hb hby d7_62) rfl ?_
            refine st84 _ ?_
            refine XT.iconstV X84.here hx rfl (1 : Int32) (hb hby d7_65) (by decide) ?_
            show oS p e below T84 (mkF m 66 #[rv la, iv (own_n ka), iv (own_n kb), iv (Lf ka), iv (Lf kb)] [(.int 1)]) _
            exact kz)
          obtain ⟨fs, hr, hrun, hended, hW, hsame⟩ := X84.leave (v := some (.int 1)) (fun h => by rw [Bd.returns] at h; cases h)
          refine ⟨_, _, pre0 _ (S85 _ ?_), hrun, hended, _, _, rfl, ?_, ⟨_, rfl⟩, hW, hsame.mono (by decide) (by decide)⟩
          · exact retN X84 hx (t := .boolean) Bd.returns (by simp) (hb hby d7_66) hr
          · show QrmRef1 Z la lk Lf ka kb h0 n0 _ T84.heap _
            rw [e84]
            exact ⟨rfl, N84, K84, own_l4 (g := own_L Lf (Lf ka) (Lf kb)) V84 (if_neg hc21_5) (if_neg hc33_53) (if_pos hc45_77) (if_pos hc57_82)⟩
        · have S86 : ∀ tz, oS p e below T79 (mkF m 66 #[rv la, iv (own_n ka), iv (own_n kb), iv (Lf ka), iv (Lf kb)] [(.int 1)]) tz → oS p e below s₁ (mkF m 0 #[rv la, iv (own_n ka), iv (own_n kb), .unset, .unset] []) tz := fun tz kz => S81 tz (by
            show oS p e below T79 (mkF m 57 #[rv la, iv (own_n ka), iv (own_n kb), iv (Lf ka), iv (Lf kb)] [(.int (Lf ka)), (.int (Lf 3))]) _
            refine XS.icmpYes X79.here hx rfl (pc0 := 57) (pc' := 65) rfl (hb hby d7_57) rfl (XT.ii_ne_t hc57_82) (by decide) (by decide) ?_
            refine XT.iconstV X79.here hx rfl (1 : Int32) (hb hby d7_65) (by decide) ?_
            exact kz)
          obtain ⟨fs, hr, hrun, hended, hW, hsame⟩ := X79.leave (v := some (.int 1)) (fun h => by rw [Bd.returns] at h; cases h)
          refine ⟨_, _, pre0 _ (S86 _ ?_), hrun, hended, _, _, rfl, ?_, ⟨_, rfl⟩, hW, hsame.mono (by decide) (by decide)⟩
          · exact retN X79 hx (t := .boolean) Bd.returns (by simp) (hb hby d7_66) hr
          · show QrmRef1 Z la lk Lf ka kb h0 n0 _ T79.heap _
            rw [e79]
            exact ⟨rfl, N79, K79, own_l4 (g := own_L Lf (Lf ka) (Lf kb)) V79 (if_neg hc21_5) (if_neg hc33_53) (if_pos hc45_77) (if_neg hc57_82)⟩
      · obtain ⟨cl87, Ar87, qk87, Sz87, Ng87, Hs87, Gs87⟩ := id hB
        have hin87 : ¬ ((3 : Int32) < 0 ∨ cl87.slots.size ≤ ((3 : Int32)).toNatClampNeg) := inb_of Sz87 ⟨by decide, by decide⟩
        have hat87 : cl87.slots[((3 : Int32)).toNatClampNeg]? = some (.int (Lf 3)) := Hs87.at hin87 rfl
        have S88 : ∀ tz, oS p e below s₁ (mkF m 57 #[rv la, iv (own_n ka), iv (own_n kb), iv (Lf ka), iv (Lf kb)] [(.int (Lf ka)), (.int (Lf 3))]) tz → oS p e below s₁ (mkF m 0 #[rv la, iv (own_n ka), iv (own_n kb), .unset, .unset] []) tz := fun tz kz => S76 tz (by
          show oS p e below s₁ (mkF m 45 #[rv la, iv (own_n ka), iv (own_n kb), iv (Lf ka), iv (Lf kb)] [(.int (Lf ka)), (.int (Lf 2))]) _
          refine XS.icmpYes X0.here hx rfl (pc0 := 45) (pc' := 53) rfl (hb hby d7_45) rfl (XT.ii_ne_t hc45_77) (by decide) (by decide) ?_
          refine XS.aloadN X0.here hx rfl (hb hby d7_53) rfl rfl ?_
          refine XT.iconstV X0.here hx rfl (3 : Int32) (hb hby d7_54) (by decide) ?_
          refine X0.iaload hx (j := (3 : Int32)) (v := (.int (Lf 3))) (by rw [e0]; exact Ar87.1) (State.isArrayOf_alike hZ.alike Ar87.2.1) Ar87.2.2 hin87 hat87 (g := (mkF m 55 #[rv la, iv (own_n ka), iv (own_n kb), iv (Lf ka), iv (Lf kb)] [(.int 3), (.ref la)])) rfl rfl (hb hby d7_55) _ ?_
          refine XS.iloadN X0.here hx rfl (hb hby d7_56) rfl ?_
          exact kz)
        by_cases hc57_89 : (Lf 3) = (Lf ka)
        · obtain ⟨cl90, Ar90, qk90, Sz90, Ng90, Hs90, Gs90⟩ := id hB
          have hin90 : ¬ ((3 : Int32) < 0 ∨ cl90.slots.size ≤ ((3 : Int32)).toNatClampNeg) := inb_of Sz90 ⟨by decide, by decide⟩
          obtain ⟨T91, h91, X91, e91, W91, st91⟩ := stI X0 hx hZ e0 Ar90 (j := (3 : Int32)) hin90 (g := (mkF m 64 #[rv la, iv (own_n ka), iv (own_n kb), iv (Lf ka), iv (Lf kb)] [(.int (Lf kb)), (.int 3), (.ref la)])) rfl rfl (hb hby d7_64)
          have N91 := Fr.snoc X91 N0 hgl
          have Z91 : n0 ≤ h91.size := Nat.le_trans Z0 (Nat.le_of_eq W91.size.symm)
          have K91 : Keep h0 h91 [la] := (Keep.refl h0 [la]).wr W91 (Or.inl (List.mem_of_getElem? (i := 0) rfl))
          have V91 : Arv Z h91 la lk .int (4 : Int32) [(.int (Lf 0)), (.int (Lf 1)), (.int (Lf 2)), (.int (Lf kb))] (.int (0 : Int32)) := Arv.set Ar90 qk90 Sz90 Ng90 Hs90 Gs90 rfl W91 3 rfl (Nat.le_of_ble_eq_true rfl)
          have S92 : ∀ tz, oS p e below T91 (mkF m 66 #[rv la, iv (own_n ka), iv (own_n kb), iv (Lf ka), iv (Lf kb)] [(.int 1)]) tz → oS p e below s₁ (mkF m 0 #[rv la, iv (own_n ka), iv (own_n kb), .unset, .unset] []) tz := fun tz kz => S88 tz (by
            show oS p e below s₁ (mkF m 57 #[rv la, iv (own_n ka), iv (own_n kb), iv (Lf ka), iv (Lf kb)] [(.int (Lf ka)), (.int (Lf 3))]) _
            refine XS.icmpNo X0.here hx rfl (hb hby d7_57) rfl (XT.ii_ne_f hc57_89) ?_
            refine XS.aloadN X0.here hx rfl (hb hby d7_60) rfl rfl ?_
            show oS p e below s₁ (mkF m 61 #[rv la, iv (own_n ka), iv (own_n kb), iv (Lf ka), iv (Lf kb)] [(.ref la)]) _
            refine XT.iconstV X0.here hx rfl (3 : Int32) (hb hby d7_61) (by decide) ?_
            refine XS.iload X0.here hx rfl (hb hby d7_62) rfl ?_
            refine st91 _ ?_
            refine XT.iconstV X91.here hx rfl (1 : Int32) (hb hby d7_65) (by decide) ?_
            exact kz)
          obtain ⟨fs, hr, hrun, hended, hW, hsame⟩ := X91.leave (v := some (.int 1)) (fun h => by rw [Bd.returns] at h; cases h)
          refine ⟨_, _, pre0 _ (S92 _ ?_), hrun, hended, _, _, rfl, ?_, ⟨_, rfl⟩, hW, hsame.mono (by decide) (by decide)⟩
          · exact retN X91 hx (t := .boolean) Bd.returns (by simp) (hb hby d7_66) hr
          · show QrmRef1 Z la lk Lf ka kb h0 n0 _ T91.heap _
            rw [e91]
            exact ⟨rfl, N91, K91, own_l4 (g := own_L Lf (Lf ka) (Lf kb)) V91 (if_neg hc21_5) (if_neg hc33_53) (if_neg hc45_77) (if_pos hc57_89)⟩
        · have S93 : ∀ tz, oS p e below s₁ (mkF m 66 #[rv la, iv (own_n ka), iv (own_n kb), iv (Lf ka), iv (Lf kb)] [(.int 1)]) tz → oS p e below s₁ (mkF m 0 #[rv la, iv (own_n ka), iv (own_n kb), .unset, .unset] []) tz := fun tz kz => S88 tz (by
            show oS p e below s₁ (mkF m 57 #[rv la, iv (own_n ka), iv (own_n kb), iv (Lf ka), iv (Lf kb)] [(.int (Lf ka)), (.int (Lf 3))]) _
            refine XS.icmpYes X0.here hx rfl (pc0 := 57) (pc' := 65) rfl (hb hby d7_57) rfl (XT.ii_ne_t hc57_89) (by decide) (by decide) ?_
            refine XT.iconstV X0.here hx rfl (1 : Int32) (hb hby d7_65) (by decide) ?_
            show oS p e below s₁ (mkF m 66 #[rv la, iv (own_n ka), iv (own_n kb), iv (Lf ka), iv (Lf kb)] [(.int 1)]) _
            exact kz)
          obtain ⟨fs, hr, hrun, hended, hW, hsame⟩ := X0.leave (v := some (.int 1)) (fun h => by rw [Bd.returns] at h; cases h)
          refine ⟨_, _, pre0 _ (S93 _ ?_), hrun, hended, _, _, rfl, ?_, ⟨_, rfl⟩, hW, hsame.mono (by decide) (by decide)⟩
          · exact retN X0 hx (t := .boolean) Bd.returns (by simp) (hb hby d7_66) hr
          · show QrmRef1 Z la lk Lf ka kb h0 n0 _ s₁.heap _
            rw [e0]
            exact ⟨rfl, N0, Keep.refl _ _, own_l4 (g := own_L Lf (Lf ka) (Lf kb)) hB (if_neg hc21_5) (if_neg hc33_53) (if_neg hc45_77) (if_neg hc57_89)⟩
def QCtor (Z : State) (a0 : Addr) (nn : Nat) (h0 : Heap) (n0 : Nat) (v : Option Value) (h : Heap) (L : List Loc) : Prop := ∃ (b : Addr) (k : ClassId), v = none ∧ Fr n0 L ∧ h0.size ≤ b ∧ Keep h0 h [a0] ∧ Fld Z h a0 "com/example/graftwork/graftwork/generate/Components" "parent" "[I" (.ref b) ∧ Fld Z h a0 "com/example/graftwork/graftwork/generate/Components" "count" "I" (.int (own_n nn)) ∧ own_U Z h b k nn (fun i => i)
theorem d1_0 : decode prog_24_method_1_code 0 = .ok (.aload_n 0, 1) := by decide +kernel
theorem d1_1 : decode prog_24_method_1_code 1 = .ok (.invokespecial 1, 3) := by decide +kernel
theorem d1_4 : decode prog_24_method_1_code 4 = .ok (.aload_n 0, 1) := by decide +kernel
theorem d1_5 : decode prog_24_method_1_code 5 = .ok (.iload_n 1, 1) := by decide +kernel
theorem d1_6 : decode prog_24_method_1_code 6 = .ok (.newarray .int, 2) := by decide +kernel
theorem d1_8 : decode prog_24_method_1_code 8 = .ok (.putfield 7, 3) := by decide +kernel
theorem d1_11 : decode prog_24_method_1_code 11 = .ok (.iconst 0, 1) := by decide +kernel
theorem d1_12 : decode prog_24_method_1_code 12 = .ok (.istore_n 2, 1) := by decide +kernel
theorem d1_13 : decode prog_24_method_1_code 13 = .ok (.iload_n 2, 1) := by decide +kernel
theorem d1_14 : decode prog_24_method_1_code 14 = .ok (.iload_n 1, 1) := by decide +kernel
theorem d1_15 : decode prog_24_method_1_code 15 = .ok (.if_icmp .ge 16, 3) := by decide +kernel
theorem d1_18 : decode prog_24_method_1_code 18 = .ok (.aload_n 0, 1) := by decide +kernel
theorem d1_19 : decode prog_24_method_1_code 19 = .ok (.getfield 7, 3) := by decide +kernel
theorem d1_22 : decode prog_24_method_1_code 22 = .ok (.iload_n 2, 1) := by decide +kernel
theorem d1_23 : decode prog_24_method_1_code 23 = .ok (.iload_n 2, 1) := by decide +kernel
theorem d1_24 : decode prog_24_method_1_code 24 = .ok (.iastore, 1) := by decide +kernel
theorem d1_25 : decode prog_24_method_1_code 25 = .ok (.iinc 2 1, 3) := by decide +kernel
theorem d1_28 : decode prog_24_method_1_code 28 = .ok (.goto (-15), 3) := by decide +kernel
theorem d1_31 : decode prog_24_method_1_code 31 = .ok (.aload_n 0, 1) := by decide +kernel
theorem d1_32 : decode prog_24_method_1_code 32 = .ok (.iload_n 1, 1) := by decide +kernel
theorem d1_33 : decode prog_24_method_1_code 33 = .ok (.putfield 13, 3) := by decide +kernel
theorem d1_36 : decode prog_24_method_1_code 36 = .ok (.return_, 1) := by decide +kernel
set_option maxRecDepth 65536 in
set_option maxHeartbeats 40000000 in
theorem rmCtor1 (l : Launch) (Z : State) (av0 : Array Value) (hw : ∀ d ∈ tables_1, d.before av0 Z = true) (ws : List Jvm.Cond) (a0 : Addr) (h0 : Heap) (n0 : Nat) (Z0 : n0 ≤ h0.size) (hEx : Exa Z h0 a0 "com/example/graftwork/graftwork/generate/Components") (hFp : Fld Z h0 a0 "com/example/graftwork/graftwork/generate/Components" "parent" "[I" .null) (hFc : Fld Z h0 a0 "com/example/graftwork/graftwork/generate/Components" "count" "I" (.int (0 : Int32))) (hga : n0 ≤ a0) :
    own_Met l mN6 prog_24_method_1_code 3 none ws ({ frames := 1, cells := 1, slots := 4, locals := 12 } : Room) #[(.ref a0), (.int 1)] Z h0 (QCtor Z a0 1 h0 n0) := by
  refine MetFree.of_bodySF (plainFor_of_name pn_Components) hisR ?_
  intro p e s m args below meth c s₁ Bd hml0 hP hK
  obtain ⟨rfl, hZ, hh⟩ := hP
  have hml : c.maxLocals = 3 := hml0
  obtain ⟨hx, hby, hown, hnm, X0, e0⟩ := own_start Bd hml0 hh
  have N0 := Fr.nil n0
  have pre0 : ∀ tz, oS p e below s₁ (mkF m 0 #[rv a0, iv 1, .unset] []) tz → Steps p.tables e below (s₁.setTop (entryFrame m #[(.ref a0), (.int 1)] 3)) tz := fun tz kz => castTop (by first | (simp [entryFrame, mkF, argsToLocals, Value.category]; done) | rfl) kz
  obtain ⟨T1, X1, e1, st1⟩ := initO X0 hx hZ hown (hw _ (own_w 6 rfl)) (hw _ (own_w 7 rfl)) (hw _ (own_w 8 rfl)) e0 (g := (mkF m 1 #[rv a0, iv 1, .unset] [(.ref a0)])) rfl (by rw [hml]; rfl) rfl (hb hby d1_1) (by decide) (W := 0) (by show 2 * 0 + _ ≤ _; exact Nat.le_of_eq rfl) (by decide)
  obtain ⟨T2, h2, k2, X2, e2, E2, A2, st2⟩ := newP X1 hx hZ (hw _ (own_w 9 rfl)) e1 (g := (mkF m 6 #[rv a0, iv 1, .unset] [(.int 1), (.ref a0)])) rfl (hb hby d1_6) rfl (by decide) (cap := 1) (by decide) (by decide) (by decide) (by decide)
  obtain ⟨b2, g2⟩ : ∃ z, z = h0.size := ⟨_, rfl⟩
  rw [← g2] at A2 st2
  have ne_a0_b2 : a0 ≠ b2 := Nat.ne_of_lt (Nat.lt_of_lt_of_le hEx.lt (Nat.le_of_eq g2.symm))
  have ge_b2 : n0 ≤ b2 := Nat.le_trans Z0 (Nat.le_of_eq g2.symm)
  have sz_b2 : h0.size ≤ b2 := Nat.le_of_eq g2.symm
  have Z2 : n0 ≤ h2.size := Nat.le_trans Z0 E2.1
  have K2 : Keep h0 h2 [a0] := (Keep.refl h0 [a0]).ext E2
  have V2 : Arv Z h2 b2 k2 .int (1 : Int32) [(.int (0 : Int32))] (.int (0 : Int32)) := (Arv.new A2 (by decide)).pad (pad_rep [] (.int (0 : Int32)) 1)
  have f3 := (hFp.ext E2)
  have f4 := (hEx.ext E2)
  obtain ⟨T5, h5, X5, e5, W5, st5⟩ := putF X2 hx hZ hown (host := "") (Or.inl (hw _ (own_w 10 rfl))) Via.refl e2 f3 f4 (Or.inr ⟨(hw _ (own_w 11 rfl)), rfl, hnm⟩) (hw _ (own_w 1 rfl)) (ty := (.array .int)) (by decide) rfl rfl (g := (mkF m 8 #[rv a0, iv 1, .unset] [(.ref b2), (.ref a0)])) rfl rfl (hb hby d1_8)
  have N5 := Fr.snoc X5 N0 hga
  have Z5 : n0 ≤ h5.size := Nat.le_trans Z2 (Nat.le_of_eq W5.size.symm)
  have K5 : Keep h0 h5 [a0] := K2.wr W5 (Or.inl (List.mem_of_getElem? (i := 0) rfl))
  have Fw5 := f3.same W5
  obtain ⟨T6, X6, e6, st6⟩ := getF X5 hx hZ hown (host := "") (Or.inl (hw _ (own_w 10 rfl))) Via.refl e5 Fw5 (g := (mkF m 19 #[rv a0, iv 1, iv 0] [(.ref a0)])) rfl rfl (hb hby d1_19)
  have f7 := (V2.other W5 (Ne.symm ne_a0_b2))
  obtain ⟨cl8, Ar8, qk8, Sz8, Ng8, Hs8, Gs8⟩ := id f7
  have hin8 : ¬ ((0 : Int32) < 0 ∨ cl8.slots.size ≤ ((0 : Int32)).toNatClampNeg) := inb_of Sz8 ⟨by decide, by decide⟩
  obtain ⟨T9, h9, X9, e9, W9, st9⟩ := stI X6 hx hZ e6 Ar8 (j := (0 : Int32)) hin8 (g := (mkF m 24 #[rv a0, iv 1, iv 0] [(.int 0), (.int 0), (.ref b2)])) rfl rfl (hb hby d1_24)
  have N9 := Fr.snoc X9 N5 ge_b2
  have Z9 : n0 ≤ h9.size := Nat.le_trans Z5 (Nat.le_of_eq W9.size.symm)
  have K9 : Keep h0 h9 [a0] := K5.wr W9 (Or.inr sz_b2)
  have V9 : Arv Z h9 b2 k2 .int (1 : Int32) [(.int 0)] (.int (0 : Int32)) := Arv.set Ar8 qk8 Sz8 Ng8 Hs8 Gs8 rfl W9 0 rfl (Nat.le_of_ble_eq_true rfl)
  have f10 := (((hFc.ext E2).other W5 (Or.inr (slot_ne (Or.inl (hw _ (own_w 13 rfl))) (Or.inr (hw _ (own_w 11 rfl))) (by decide) (t := .int) (t' := (.array .int)) (by decide) (by decide)))).other W9 (Or.inl ne_a0_b2))
  have f11 := ((f4.wr W5).wr W9)
  obtain ⟨T12, h12, X12, e12, W12, st12⟩ := putF X9 hx hZ hown (host := "") (Or.inl (hw _ (own_w 12 rfl))) Via.refl e9 f10 f11 (Or.inl (hw _ (own_w 13 rfl))) (hw _ (own_w 1 rfl)) (ty := .int) (by decide) rfl rfl (g := (mkF m 33 #[rv a0, iv 1, iv 1] [(.int 1), (.ref a0)])) rfl rfl (hb hby d1_33)
  have N12 := Fr.snoc X12 N9 hga
  have Z12 : n0 ≤ h12.size := Nat.le_trans Z9 (Nat.le_of_eq W12.size.symm)
  have K12 : Keep h0 h12 [a0] := K9.wr W12 (Or.inl (List.mem_of_getElem? (i := 0) rfl))
  have Fw12 := f10.same W12
  have S13 : ∀ tz, oS p e below T12 (mkF m 36 #[rv a0, iv 1, iv 1] []) tz → oS p e below s₁ (mkF m 0 #[rv a0, iv 1, .unset] []) tz := fun tz kz => id (by
    show oS p e below s₁ (mkF m 0 #[rv a0, iv 1, .unset] []) _
    refine XS.aloadN X0.here hx rfl (hb hby d1_0) rfl rfl ?_
    refine st1 _ ?_
    refine XS.aloadN X1.here hx rfl (hb hby d1_4) rfl rfl ?_
    refine XS.iloadN X1.here hx rfl (hb hby d1_5) rfl ?_
    refine st2 _ ?_
    refine st5 _ ?_
    refine XT.iconstV X5.here hx rfl (0 : Int32) (hb hby d1_11) (by decide) ?_
    refine XS.istoreN X5.here hx rfl (hb hby d1_12) rfl (l' := #[rv a0, iv 1, iv 0]) rfl ?_
    show oS p e below T5 (mkF m 13 #[rv a0, iv 1, iv 0] []) _
    refine XS.iloadN X5.here hx rfl (hb hby d1_13) rfl ?_
    refine XS.iloadN X5.here hx rfl (hb hby d1_14) rfl ?_
    refine XS.icmpNo X5.here hx rfl (hb hby d1_15) rfl (XT.ii_ge_f (by decide)) ?_
    refine XS.aloadN X5.here hx rfl (hb hby d1_18) rfl rfl ?_
    refine st6 _ ?_
    refine XS.iloadN X6.here hx rfl (hb hby d1_22) rfl ?_
    refine XS.iloadN X6.here hx rfl (hb hby d1_23) rfl ?_
    refine st9 _ ?_
    show oS p e below T9 (mkF m 25 #[rv a0, iv 1, iv 0] []) _
    refine XT.iincV X9.here hx rfl (1 : Int32) (hb hby d1_25) (by decide) rfl (l' := #[rv a0, iv 1, iv 1]) rfl ?_
    refine XS.goto X9.here hx rfl (pc0 := 28) (pc' := 13) rfl (hb hby d1_28) (by decide) (by decide) ?_
    refine XS.iloadN X9.here hx rfl (hb hby d1_13) rfl ?_
    refine XS.iloadN X9.here hx rfl (hb hby d1_14) rfl ?_
    refine XS.icmpYes X9.here hx rfl (pc0 := 15) (pc' := 31) rfl (hb hby d1_15) rfl (XT.ii_ge_t (by decide)) (by decide) (by decide) ?_
    refine XS.aloadN X9.here hx rfl (hb hby d1_31) rfl rfl ?_
    refine XS.iloadN X9.here hx rfl (hb hby d1_32) rfl ?_
    refine st12 _ ?_
    show oS p e below T12 (mkF m 36 #[rv a0, iv 1, iv 1] []) _
    exact kz)
  obtain ⟨fs, hr, hrun, hended, hW, hsame⟩ := X12.leave (v := none) (fun _ => rfl)
  refine ⟨_, _, pre0 _ (S13 _ ?_), hrun, hended, _, _, rfl, ?_, ⟨_, rfl⟩, hW, hsame.mono (by decide) (by decide)⟩
  · exact X12.returnOut hx Bd.returns (hb hby d1_36) hr
  have f14 := ((Fw5.other W9 (Or.inl ne_a0_b2)).other W12 (Or.inr (slot_ne (Or.inr (hw _ (own_w 11 rfl))) (Or.inl (hw _ (own_w 13 rfl))) (by decide) (t := (.array .int)) (t' := .int) (by decide) (by decide))))
  have f15 := (V9.other W12 (Ne.symm ne_a0_b2))
  · show QCtor Z a0 1 h0 n0 _ T12.heap _
    rw [e12]
    exact ⟨b2, _, rfl, N12, sz_b2, K12, f14, Fw12, f15⟩
set_option maxRecDepth 65536 in
set_option maxHeartbeats 40000000 in
theorem rmCtor2 (l : Launch) (Z : State) (av0 : Array Value) (hw : ∀ d ∈ tables_1, d.before av0 Z = true) (ws : List Jvm.Cond) (a0 : Addr) (h0 : Heap) (n0 : Nat) (Z0 : n0 ≤ h0.size) (hEx : Exa Z h0 a0 "com/example/graftwork/graftwork/generate/Components") (hFp : Fld Z h0 a0 "com/example/graftwork/graftwork/generate/Components" "parent" "[I" .null) (hFc : Fld Z h0 a0 "com/example/graftwork/graftwork/generate/Components" "count" "I" (.int (0 : Int32))) (hga : n0 ≤ a0) :
    own_Met l mN6 prog_24_method_1_code 3 none ws ({ frames := 1, cells := 1, slots := 4, locals := 12 } : Room) #[(.ref a0), (.int 2)] Z h0 (QCtor Z a0 2 h0 n0) := by
  refine MetFree.of_bodySF (plainFor_of_name pn_Components) hisR ?_
  intro p e s m args below meth c s₁ Bd hml0 hP hK
  obtain ⟨rfl, hZ, hh⟩ := hP
  have hml : c.maxLocals = 3 := hml0
  obtain ⟨hx, hby, hown, hnm, X0, e0⟩ := own_start Bd hml0 hh
  have N0 := Fr.nil n0
  have pre0 : ∀ tz, oS p e below s₁ (mkF m 0 #[rv a0, iv 2, .unset] []) tz → Steps p.tables e below (s₁.setTop (entryFrame m #[(.ref a0), (.int 2)] 3)) tz := fun tz kz => castTop (by first | (simp [entryFrame, mkF, argsToLocals, Value.category]; done) | rfl) kz
  obtain ⟨T1, X1, e1, st1⟩ := initO X0 hx hZ hown (hw _ (own_w 6 rfl)) (hw _ (own_w 7 rfl)) (hw _ (own_w 8 rfl)) e0 (g := (mkF m 1 #[rv a0, iv 2, .unset] [(.ref a0)])) rfl (by rw [hml]; rfl) rfl (hb hby d1_1) (by decide) (W := 0) (by show 2 * 0 + _ ≤ _; exact Nat.le_of_eq rfl) (by decide)
  obtain ⟨T2, h2, k2, X2, e2, E2, A2, st2⟩ := newP X1 hx hZ (hw _ (own_w 9 rfl)) e1 (g := (mkF m 6 #[rv a0, iv 2, .unset] [(.int 2), (.ref a0)])) rfl (hb hby d1_6) rfl (by decide) (cap := 2) (by decide) (by decide) (by decide) (by decide)
  obtain ⟨b2, g2⟩ : ∃ z, z = h0.size := ⟨_, rfl⟩
  rw [← g2] at A2 st2
  have ne_a0_b2 : a0 ≠ b2 := Nat.ne_of_lt (Nat.lt_of_lt_of_le hEx.lt (Nat.le_of_eq g2.symm))
  have ge_b2 : n0 ≤ b2 := Nat.le_trans Z0 (Nat.le_of_eq g2.symm)
  have sz_b2 : h0.size ≤ b2 := Nat.le_of_eq g2.symm
  have Z2 : n0 ≤ h2.size := Nat.le_trans Z0 E2.1
  have K2 : Keep h0 h2 [a0] := (Keep.refl h0 [a0]).ext E2
  have V2 : Arv Z h2 b2 k2 .int (2 : Int32) [(.int (0 : Int32)), (.int (0 : Int32))] (.int (0 : Int32)) := (Arv.new A2 (by decide)).pad (pad_rep [] (.int (0 : Int32)) 2)
  have f3 := (hFp.ext E2)
  have f4 := (hEx.ext E2)
  obtain ⟨T5, h5, X5, e5, W5, st5⟩ := putF X2 hx hZ hown (host := "") (Or.inl (hw _ (own_w 10 rfl))) Via.refl e2 f3 f4 (Or.inr ⟨(hw _ (own_w 11 rfl)), rfl, hnm⟩) (hw _ (own_w 1 rfl)) (ty := (.array .int)) (by decide) rfl rfl (g := (mkF m 8 #[rv a0, iv 2, .unset] [(.ref b2), (.ref a0)])) rfl rfl (hb hby d1_8)
  have N5 := Fr.snoc X5 N0 hga
  have Z5 : n0 ≤ h5.size := Nat.le_trans Z2 (Nat.le_of_eq W5.size.symm)
  have K5 : Keep h0 h5 [a0] := K2.wr W5 (Or.inl (List.mem_of_getElem? (i := 0) rfl))
  have Fw5 := f3.same W5
  obtain ⟨T6, X6, e6, st6⟩ := getF X5 hx hZ hown (host := "") (Or.inl (hw _ (own_w 10 rfl))) Via.refl e5 Fw5 (g := (mkF m 19 #[rv a0, iv 2, iv 0] [(.ref a0)])) rfl rfl (hb hby d1_19)
  have f7 := (V2.other W5 (Ne.symm ne_a0_b2))
  obtain ⟨cl8, Ar8, qk8, Sz8, Ng8, Hs8, Gs8⟩ := id f7
  have hin8 : ¬ ((0 : Int32) < 0 ∨ cl8.slots.size ≤ ((0 : Int32)).toNatClampNeg) := inb_of Sz8 ⟨by decide, by decide⟩
  obtain ⟨T9, h9, X9, e9, W9, st9⟩ := stI X6 hx hZ e6 Ar8 (j := (0 : Int32)) hin8 (g := (mkF m 24 #[rv a0, iv 2, iv 0] [(.int 0), (.int 0), (.ref b2)])) rfl rfl (hb hby d1_24)
  have N9 := Fr.snoc X9 N5 ge_b2
  have Z9 : n0 ≤ h9.size := Nat.le_trans Z5 (Nat.le_of_eq W9.size.symm)
  have K9 : Keep h0 h9 [a0] := K5.wr W9 (Or.inr sz_b2)
  have V9 : Arv Z h9 b2 k2 .int (2 : Int32) [(.int 0), (.int (0 : Int32))] (.int (0 : Int32)) := Arv.set Ar8 qk8 Sz8 Ng8 Hs8 Gs8 rfl W9 0 rfl (Nat.le_of_ble_eq_true rfl)
  have f10 := (Fw5.other W9 (Or.inl ne_a0_b2))
  obtain ⟨T11, X11, e11, st11⟩ := getF X9 hx hZ hown (host := "") (Or.inl (hw _ (own_w 10 rfl))) Via.refl e9 f10 (g := (mkF m 19 #[rv a0, iv 2, iv 1] [(.ref a0)])) rfl rfl (hb hby d1_19)
  obtain ⟨cl12, Ar12, qk12, Sz12, Ng12, Hs12, Gs12⟩ := id V9
  have hin12 : ¬ ((1 : Int32) < 0 ∨ cl12.slots.size ≤ ((1 : Int32)).toNatClampNeg) := inb_of Sz12 ⟨by decide, by decide⟩
  obtain ⟨T13, h13, X13, e13, W13, st13⟩ := stI X11 hx hZ e11 Ar12 (j := (1 : Int32)) hin12 (g := (mkF m 24 #[rv a0, iv 2, iv 1] [(.int 1), (.int 1), (.ref b2)])) rfl rfl (hb hby d1_24)
  have N13 := Fr.snoc X13 N9 ge_b2
  have Z13 : n0 ≤ h13.size := Nat.le_trans Z9 (Nat.le_of_eq W13.size.symm)
  have K13 : Keep h0 h13 [a0] := K9.wr W13 (Or.inr sz_b2)
  have V13 : Arv Z h13 b2 k2 .int (2 : Int32) [(.int 0), (.int 1)] (.int (0 : Int32)) := Arv.set Ar12 qk12 Sz12 Ng12 Hs12 Gs12 rfl W13 1 rfl (Nat.le_of_ble_eq_true rfl)
  have f14 := ((((hFc.ext E2).other W5 (Or.inr (slot_ne (Or.inl (hw _ (own_w 13 rfl))) (Or.inr (hw _ (own_w 11 rfl))) (by decide) (t := .int) (t' := (.array .int)) (by decide) (by decide)))).other W9 (Or.inl ne_a0_b2)).other W13 (Or.inl ne_a0_b2))
  have f15 := (((f4.wr W5).wr W9).wr W13)
  obtain ⟨T16, h16, X16, e16, W16, st16⟩ := putF X13 hx hZ hown (host := "") (Or.inl (hw _ (own_w 12 rfl))) Via.refl e13 f14 f15 (Or.inl (hw _ (own_w 13 rfl))) (hw _ (own_w 1 rfl)) (ty := .int) (by decide) rfl rfl (g := (mkF m 33 #[rv a0, iv 2, iv 2] [(.int 2), (.ref a0)])) rfl rfl (hb hby d1_33)
  have N16 := Fr.snoc X16 N13 hga
  have Z16 : n0 ≤ h16.size := Nat.le_trans Z13 (Nat.le_of_eq W16.size.symm)
  have K16 : Keep h0 h16 [a0] := K13.wr W16 (Or.inl (List.mem_of_getElem? (i := 0) rfl))
  have Fw16 := f14.same W16
  have S17 : ∀ tz, oS p e below T16 (mkF m 36 #[rv a0, iv 2, iv 2] []) tz → oS p e below s₁ (mkF m 0 #[rv a0, iv 2, .unset] []) tz := fun tz kz => id (by
    show oS p e below s₁ (mkF m 0 #[rv a0, iv 2, .unset] []) _
    refine XS.aloadN X0.here hx rfl (hb hby d1_0) rfl rfl ?_
    refine st1 _ ?_
    refine XS.aloadN X1.here hx rfl (hb hby d1_4) rfl rfl ?_
    refine XS.iloadN X1.here hx rfl (hb hby d1_5) rfl ?_
    refine st2 _ ?_
    refine st5 _ ?_
    refine XT.iconstV X5.here hx rfl (0 : Int32) (hb hby d1_11) (by decide) ?_
    refine XS.istoreN X5.here hx rfl (hb hby d1_12) rfl (l' := #[rv a0, iv 2, iv 0]) rfl ?_
    show oS p e below T5 (mkF m 13 #[rv a0, iv 2, iv 0] []) _
    refine XS.iloadN X5.here hx rfl (hb hby d1_13) rfl ?_
    refine XS.iloadN X5.here hx rfl (hb hby d1_14) rfl ?_
    refine XS.icmpNo X5.here hx rfl (hb hby d1_15) rfl (XT.ii_ge_f (by decide)) ?_
    refine XS.aloadN X5.here hx rfl (hb hby d1_18) rfl rfl ?_
    refine st6 _ ?_
    refine XS.iloadN X6.here hx rfl (hb hby d1_22) rfl ?_
    refine XS.iloadN X6.here hx rfl (hb hby d1_23) rfl ?_
    refine st9 _ ?_
    show oS p e below T9 (mkF m 25 #[rv a0, iv 2, iv 0] []) _
    refine XT.iincV X9.here hx rfl (1 : Int32) (hb hby d1_25) (by decide) rfl (l' := #[rv a0, iv 2, iv 1]) rfl ?_
    refine XS.goto X9.here hx rfl (pc0 := 28) (pc' := 13) rfl (hb hby d1_28) (by decide) (by decide) ?_
    refine XS.iloadN X9.here hx rfl (hb hby d1_13) rfl ?_
    refine XS.iloadN X9.here hx rfl (hb hby d1_14) rfl ?_
    refine XS.icmpNo X9.here hx rfl (hb hby d1_15) rfl (XT.ii_ge_f (by decide)) ?_
    refine XS.aloadN X9.here hx rfl (hb hby d1_18) rfl rfl ?_
    refine st11 _ ?_
    refine XS.iloadN X11.here hx rfl (hb hby d1_22) rfl ?_
    show oS p e below T11 (mkF m 23 #[rv a0, iv 2, iv 1] [(.int 1), (.ref b2)]) _
    refine XS.iloadN X11.here hx rfl (hb hby d1_23) rfl ?_
    refine st13 _ ?_
    refine XT.iincV X13.here hx rfl (1 : Int32) (hb hby d1_25) (by decide) rfl (l' := #[rv a0, iv 2, iv 2]) rfl ?_
    refine XS.goto X13.here hx rfl (pc0 := 28) (pc' := 13) rfl (hb hby d1_28) (by decide) (by decide) ?_
    refine XS.iloadN X13.here hx rfl (hb hby d1_13) rfl ?_
    refine XS.iloadN X13.here hx rfl (hb hby d1_14) rfl ?_
    refine XS.icmpYes X13.here hx rfl (pc0 := 15) (pc' := 31) rfl (hb hby d1_15) rfl (XT.ii_ge_t (by decide)) (by decide) (by decide) ?_
    refine XS.aloadN X13.here hx rfl (hb hby d1_31) rfl rfl ?_
    show oS p e below T13 (mkF m 32 #[rv a0, iv 2, iv 2] [(.ref a0)]) _
    refine XS.iloadN X13.here hx rfl (hb hby d1_32) rfl ?_
    refine st16 _ ?_
    exact kz)
  obtain ⟨fs, hr, hrun, hended, hW, hsame⟩ := X16.leave (v := none) (fun _ => rfl)
  refine ⟨_, _, pre0 _ (S17 _ ?_), hrun, hended, _, _, rfl, ?_, ⟨_, rfl⟩, hW, hsame.mono (by decide) (by decide)⟩
  · exact X16.returnOut hx Bd.returns (hb hby d1_36) hr
  have f18 := ((f10.other W13 (Or.inl ne_a0_b2)).other W16 (Or.inr (slot_ne (Or.inr (hw _ (own_w 11 rfl))) (Or.inl (hw _ (own_w 13 rfl))) (by decide) (t := (.array .int)) (t' := .int) (by decide) (by decide))))
  have f19 := (V13.other W16 (Ne.symm ne_a0_b2))
  · show QCtor Z a0 2 h0 n0 _ T16.heap _
    rw [e16]
    exact ⟨b2, _, rfl, N16, sz_b2, K16, f18, Fw16, f19⟩
set_option maxRecDepth 65536 in
set_option maxHeartbeats 40000000 in
theorem rmCtor3 (l : Launch) (Z : State) (av0 : Array Value) (hw : ∀ d ∈ tables_1, d.before av0 Z = true) (ws : List Jvm.Cond) (a0 : Addr) (h0 : Heap) (n0 : Nat) (Z0 : n0 ≤ h0.size) (hEx : Exa Z h0 a0 "com/example/graftwork/graftwork/generate/Components") (hFp : Fld Z h0 a0 "com/example/graftwork/graftwork/generate/Components" "parent" "[I" .null) (hFc : Fld Z h0 a0 "com/example/graftwork/graftwork/generate/Components" "count" "I" (.int (0 : Int32))) (hga : n0 ≤ a0) :
    own_Met l mN6 prog_24_method_1_code 3 none ws ({ frames := 1, cells := 1, slots := 4, locals := 12 } : Room) #[(.ref a0), (.int 3)] Z h0 (QCtor Z a0 3 h0 n0) := by
  refine MetFree.of_bodySF (plainFor_of_name pn_Components) hisR ?_
  intro p e s m args below meth c s₁ Bd hml0 hP hK
  obtain ⟨rfl, hZ, hh⟩ := hP
  have hml : c.maxLocals = 3 := hml0
  obtain ⟨hx, hby, hown, hnm, X0, e0⟩ := own_start Bd hml0 hh
  have N0 := Fr.nil n0
  have pre0 : ∀ tz, oS p e below s₁ (mkF m 0 #[rv a0, iv 3, .unset] []) tz → Steps p.tables e below (s₁.setTop (entryFrame m #[(.ref a0), (.int 3)] 3)) tz := fun tz kz => castTop (by first | (simp [entryFrame, mkF, argsToLocals, Value.category]; done) | rfl) kz
  obtain ⟨T1, X1, e1, st1⟩ := initO X0 hx hZ hown (hw _ (own_w 6 rfl)) (hw _ (own_w 7 rfl)) (hw _ (own_w 8 rfl)) e0 (g := (mkF m 1 #[rv a0, iv 3, .unset] [(.ref a0)])) rfl (by rw [hml]; rfl) rfl (hb hby d1_1) (by decide) (W := 0) (by show 2 * 0 + _ ≤ _; exact Nat.le_of_eq rfl) (by decide)
  obtain ⟨T2, h2, k2, X2, e2, E2, A2, st2⟩ := newP X1 hx hZ (hw _ (own_w 9 rfl)) e1 (g := (mkF m 6 #[rv a0, iv 3, .unset] [(.int 3), (.ref a0)])) rfl (hb hby d1_6) rfl (by decide) (cap := 3) (by decide) (by decide) (by decide) (by decide)
  obtain ⟨b2, g2⟩ : ∃ z, z = h0.size := ⟨_, rfl⟩
  rw [← g2] at A2 st2
  have ne_a0_b2 : a0 ≠ b2 := Nat.ne_of_lt (Nat.lt_of_lt_of_le hEx.lt (Nat.le_of_eq g2.symm))
  have ge_b2 : n0 ≤ b2 := Nat.le_trans Z0 (Nat.le_of_eq g2.symm)
  have sz_b2 : h0.size ≤ b2 := Nat.le_of_eq g2.symm
  have Z2 : n0 ≤ h2.size := Nat.le_trans Z0 E2.1
  have K2 : Keep h0 h2 [a0] := (Keep.refl h0 [a0]).ext E2
  have V2 : Arv Z h2 b2 k2 .int (3 : Int32) [(.int (0 : Int32)), (.int (0 : Int32)), (.int (0 : Int32))] (.int (0 : Int32)) := (Arv.new A2 (by decide)).pad (pad_rep [] (.int (0 : Int32)) 3)
  have f3 := (hFp.ext E2)
  have f4 := (hEx.ext E2)
  obtain ⟨T5, h5, X5, e5, W5, st5⟩ := putF X2 hx hZ hown (host := "") (Or.inl (hw _ (own_w 10 rfl))) Via.refl e2 f3 f4 (Or.inr ⟨(hw _ (own_w 11 rfl)), rfl, hnm⟩) (hw _ (own_w 1 rfl)) (ty := (.array .int)) (by decide) rfl rfl (g := (mkF m 8 #[rv a0, iv 3, .unset] [(.ref b2), (.ref a0)])) rfl rfl (hb hby d1_8)
  have N5 := Fr.snoc X5 N0 hga
  have Z5 : n0 ≤ h5.size := Nat.le_trans Z2 (Nat.le_of_eq W5.size.symm)
  have K5 : Keep h0 h5 [a0] := K2.wr W5 (Or.inl (List.mem_of_getElem? (i := 0) rfl))
  have Fw5 := f3.same W5
  obtain ⟨T6, X6, e6, st6⟩ := getF X5 hx hZ hown (host := "") (Or.inl (hw _ (own_w 10 rfl))) Via.refl e5 Fw5 (g := (mkF m 19 #[rv a0, iv 3, iv 0] [(.ref a0)])) rfl rfl (hb hby d1_19)
  have f7 := (V2.other W5 (Ne.symm ne_a0_b2))
  obtain ⟨cl8, Ar8, qk8, Sz8, Ng8, Hs8, Gs8⟩ := id f7
  have hin8 : ¬ ((0 : Int32) < 0 ∨ cl8.slots.size ≤ ((0 : Int32)).toNatClampNeg) := inb_of Sz8 ⟨by decide, by decide⟩
  obtain ⟨T9, h9, X9, e9, W9, st9⟩ := stI X6 hx hZ e6 Ar8 (j := (0 : Int32)) hin8 (g := (mkF m 24 #[rv a0, iv 3, iv 0] [(.int 0), (.int 0), (.ref b2)])) rfl rfl (hb hby d1_24)
  have N9 := Fr.snoc X9 N5 ge_b2
  have Z9 : n0 ≤ h9.size := Nat.le_trans Z5 (Nat.le_of_eq W9.size.symm)
  have K9 : Keep h0 h9 [a0] := K5.wr W9 (Or.inr sz_b2)
  have V9 : Arv Z h9 b2 k2 .int (3 : Int32) [(.int 0), (.int (0 : Int32)), (.int (0 : Int32))] (.int (0 : Int32)) := Arv.set Ar8 qk8 Sz8 Ng8 Hs8 Gs8 rfl W9 0 rfl (Nat.le_of_ble_eq_true rfl)
  have f10 := (Fw5.other W9 (Or.inl ne_a0_b2))
  obtain ⟨T11, X11, e11, st11⟩ := getF X9 hx hZ hown (host := "") (Or.inl (hw _ (own_w 10 rfl))) Via.refl e9 f10 (g := (mkF m 19 #[rv a0, iv 3, iv 1] [(.ref a0)])) rfl rfl (hb hby d1_19)
  obtain ⟨cl12, Ar12, qk12, Sz12, Ng12, Hs12, Gs12⟩ := id V9
  have hin12 : ¬ ((1 : Int32) < 0 ∨ cl12.slots.size ≤ ((1 : Int32)).toNatClampNeg) := inb_of Sz12 ⟨by decide, by decide⟩
  obtain ⟨T13, h13, X13, e13, W13, st13⟩ := stI X11 hx hZ e11 Ar12 (j := (1 : Int32)) hin12 (g := (mkF m 24 #[rv a0, iv 3, iv 1] [(.int 1), (.int 1), (.ref b2)])) rfl rfl (hb hby d1_24)
  have N13 := Fr.snoc X13 N9 ge_b2
  have Z13 : n0 ≤ h13.size := Nat.le_trans Z9 (Nat.le_of_eq W13.size.symm)
  have K13 : Keep h0 h13 [a0] := K9.wr W13 (Or.inr sz_b2)
  have V13 : Arv Z h13 b2 k2 .int (3 : Int32) [(.int 0), (.int 1), (.int (0 : Int32))] (.int (0 : Int32)) := Arv.set Ar12 qk12 Sz12 Ng12 Hs12 Gs12 rfl W13 1 rfl (Nat.le_of_ble_eq_true rfl)
  have f14 := (f10.other W13 (Or.inl ne_a0_b2))
  obtain ⟨T15, X15, e15, st15⟩ := getF X13 hx hZ hown (host := "") (Or.inl (hw _ (own_w 10 rfl))) Via.refl e13 f14 (g := (mkF m 19 #[rv a0, iv 3, iv 2] [(.ref a0)])) rfl rfl (hb hby d1_19)
  obtain ⟨cl16, Ar16, qk16, Sz16, Ng16, Hs16, Gs16⟩ := id V13
  have hin16 : ¬ ((2 : Int32) < 0 ∨ cl16.slots.size ≤ ((2 : Int32)).toNatClampNeg) := inb_of Sz16 ⟨by decide, by decide⟩
  obtain ⟨T17, h17, X17, e17, W17, st17⟩ := stI X15 hx hZ e15 Ar16 (j := (2 : Int32)) hin16 (g := (mkF m 24 #[rv a0, iv 3, iv 2] [(.int 2), (.int 2), (.ref b2)])) rfl rfl (hb hby d1_24)
  have N17 := Fr.snoc X17 N13 ge_b2
  have Z17 : n0 ≤ h17.size := Nat.le_trans Z13 (Nat.le_of_eq W17.size.symm)
  have K17 : Keep h0 h17 [a0] := K13.wr W17 (Or.inr sz_b2)
  have V17 : Arv Z h17 b2 k2 .int (3 : Int32) [(.int 0), (.int 1), (.int 2)] (.int (0 : Int32)) := Arv.set Ar16 qk16 Sz16 Ng16 Hs16 Gs16 rfl W17 2 rfl (Nat.le_of_ble_eq_true rfl)
  have f18 := (((((hFc.ext E2).other W5 (Or.inr (slot_ne (Or.inl (hw _ (own_w 13 rfl))) (Or.inr (hw _ (own_w 11 rfl))) (by decide) (t := .int) (t' := (.array .int)) (by decide) (by decide)))).other W9 (Or.inl ne_a0_b2)).other W13 (Or.inl ne_a0_b2)).other W17 (Or.inl ne_a0_b2))
  have f19 := ((((f4.wr W5).wr W9).wr W13).wr W17)
  obtain ⟨T20, h20, X20, e20, W20, st20⟩ := putF X17 hx hZ hown (host := "") (Or.inl (hw _ (own_w 12 rfl))) Via.refl e17 f18 f19 (Or.inl (hw _ (own_w 13 rfl))) (hw _ (own_w 1 rfl)) (ty := .int) (by decide) rfl rfl (g := (mkF m 33 #[rv a0, iv 3, iv 3] [(.int 3), (.ref a0)])) rfl rfl (hb hby d1_33)
  have N20 := Fr.snoc X20 N17 hga
  have Z20 : n0 ≤ h20.size := Nat.le_trans Z17 (Nat.le_of_eq W20.size.symm)
  have K20 : Keep h0 h20 [a0] := K17.wr W20 (Or.inl (List.mem_of_getElem? (i := 0) rfl))
  have Fw20 := f18.same W20
  have S21 : ∀ tz, oS p e below T20 (mkF m 36 #[rv a0, iv 3, iv 3] []) tz → oS p e below s₁ (mkF m 0 #[rv a0, iv 3, .unset] []) tz := fun tz kz => id (by
    show oS p e below s₁ (mkF m 0 #[rv a0, iv 3, .unset] []) _
    refine XS.aloadN X0.here hx rfl (hb hby d1_0) rfl rfl ?_
    refine st1 _ ?_
    refine XS.aloadN X1.here hx rfl (hb hby d1_4) rfl rfl ?_
    refine XS.iloadN X1.here hx rfl (hb hby d1_5) rfl ?_
    refine st2 _ ?_
    refine st5 _ ?_
    refine XT.iconstV X5.here hx rfl (0 : Int32) (hb hby d1_11) (by decide) ?_
    refine XS.istoreN X5.here hx rfl (hb hby d1_12) rfl (l' := #[rv a0, iv 3, iv 0]) rfl ?_
    show oS p e below T5 (mkF m 13 #[rv a0, iv 3, iv 0] []) _
    refine XS.iloadN X5.here hx rfl (hb hby d1_13) rfl ?_
    refine XS.iloadN X5.here hx rfl (hb hby d1_14) rfl ?_
    refine XS.icmpNo X5.here hx rfl (hb hby d1_15) rfl (XT.ii_ge_f (by decide)) ?_
    refine XS.aloadN X5.here hx rfl (hb hby d1_18) rfl rfl ?_
    refine st6 _ ?_
    refine XS.iloadN X6.here hx rfl (hb hby d1_22) rfl ?_
    refine XS.iloadN X6.here hx rfl (hb hby d1_23) rfl ?_
    refine st9 _ ?_
    show oS p e below T9 (mkF m 25 #[rv a0, iv 3, iv 0] []) _
    refine XT.iincV X9.here hx rfl (1 : Int32) (hb hby d1_25) (by decide) rfl (l' := #[rv a0, iv 3, iv 1]) rfl ?_
    refine XS.goto X9.here hx rfl (pc0 := 28) (pc' := 13) rfl (hb hby d1_28) (by decide) (by decide) ?_
    refine XS.iloadN X9.here hx rfl (hb hby d1_13) rfl ?_
    refine XS.iloadN X9.here hx rfl (hb hby d1_14) rfl ?_
    refine XS.icmpNo X9.here hx rfl (hb hby d1_15) rfl (XT.ii_ge_f (by decide)) ?_
    refine XS.aloadN X9.here hx rfl (hb hby d1_18) rfl rfl ?_
    refine st11 _ ?_
    refine XS.iloadN X11.here hx rfl (hb hby d1_22) rfl ?_
    show oS p e below T11 (mkF m 23 #[rv a0, iv 3, iv 1] [(.int 1), (.ref b2)]) _
    refine XS.iloadN X11.here hx rfl (hb hby d1_23) rfl ?_
    refine st13 _ ?_
    refine XT.iincV X13.here hx rfl (1 : Int32) (hb hby d1_25) (by decide) rfl (l' := #[rv a0, iv 3, iv 2]) rfl ?_
    refine XS.goto X13.here hx rfl (pc0 := 28) (pc' := 13) rfl (hb hby d1_28) (by decide) (by decide) ?_
    refine XS.iloadN X13.here hx rfl (hb hby d1_13) rfl ?_
    refine XS.iloadN X13.here hx rfl (hb hby d1_14) rfl ?_
    refine XS.icmpNo X13.here hx rfl (hb hby d1_15) rfl (XT.ii_ge_f (by decide)) ?_
    refine XS.aloadN X13.here hx rfl (hb hby d1_18) rfl rfl ?_
    show oS p e below T13 (mkF m 19 #[rv a0, iv 3, iv 2] [(.ref a0)]) _
    refine st15 _ ?_
    refine XS.iloadN X15.here hx rfl (hb hby d1_22) rfl ?_
    refine XS.iloadN X15.here hx rfl (hb hby d1_23) rfl ?_
    refine st17 _ ?_
    refine XT.iincV X17.here hx rfl (1 : Int32) (hb hby d1_25) (by decide) rfl (l' := #[rv a0, iv 3, iv 3]) rfl ?_
    refine XS.goto X17.here hx rfl (pc0 := 28) (pc' := 13) rfl (hb hby d1_28) (by decide) (by decide) ?_
    refine XS.iloadN X17.here hx rfl (hb hby d1_13) rfl ?_
    refine XS.iloadN X17.here hx rfl (hb hby d1_14) rfl ?_
    show oS p e below T17 (mkF m 15 #[rv a0, iv 3, iv 3] [(.int 3), (.int 3)]) _
    refine XS.icmpYes X17.here hx rfl (pc0 := 15) (pc' := 31) rfl (hb hby d1_15) rfl (XT.ii_ge_t (by decide)) (by decide) (by decide) ?_
    refine XS.aloadN X17.here hx rfl (hb hby d1_31) rfl rfl ?_
    refine XS.iloadN X17.here hx rfl (hb hby d1_32) rfl ?_
    refine st20 _ ?_
    exact kz)
  obtain ⟨fs, hr, hrun, hended, hW, hsame⟩ := X20.leave (v := none) (fun _ => rfl)
  refine ⟨_, _, pre0 _ (S21 _ ?_), hrun, hended, _, _, rfl, ?_, ⟨_, rfl⟩, hW, hsame.mono (by decide) (by decide)⟩
  · exact X20.returnOut hx Bd.returns (hb hby d1_36) hr
  have f22 := ((f14.other W17 (Or.inl ne_a0_b2)).other W20 (Or.inr (slot_ne (Or.inr (hw _ (own_w 11 rfl))) (Or.inl (hw _ (own_w 13 rfl))) (by decide) (t := (.array .int)) (t' := .int) (by decide) (by decide))))
  have f23 := (V17.other W20 (Ne.symm ne_a0_b2))
  · show QCtor Z a0 3 h0 n0 _ T20.heap _
    rw [e20]
    exact ⟨b2, _, rfl, N20, sz_b2, K20, f22, Fw20, f23⟩
set_option maxRecDepth 65536 in
set_option maxHeartbeats 40000000 in
theorem rmCtor4 (l : Launch) (Z : State) (av0 : Array Value) (hw : ∀ d ∈ tables_1, d.before av0 Z = true) (ws : List Jvm.Cond) (a0 : Addr) (h0 : Heap) (n0 : Nat) (Z0 : n0 ≤ h0.size) (hEx : Exa Z h0 a0 "com/example/graftwork/graftwork/generate/Components") (hFp : Fld Z h0 a0 "com/example/graftwork/graftwork/generate/Components" "parent" "[I" .null) (hFc : Fld Z h0 a0 "com/example/graftwork/graftwork/generate/Components" "count" "I" (.int (0 : Int32))) (hga : n0 ≤ a0) :
    own_Met l mN6 prog_24_method_1_code 3 none ws ({ frames := 1, cells := 1, slots := 4, locals := 12 } : Room) #[(.ref a0), (.int 4)] Z h0 (QCtor Z a0 4 h0 n0) := by
  refine MetFree.of_bodySF (plainFor_of_name pn_Components) hisR ?_
  intro p e s m args below meth c s₁ Bd hml0 hP hK
  obtain ⟨rfl, hZ, hh⟩ := hP
  have hml : c.maxLocals = 3 := hml0
  obtain ⟨hx, hby, hown, hnm, X0, e0⟩ := own_start Bd hml0 hh
  have N0 := Fr.nil n0
  have pre0 : ∀ tz, oS p e below s₁ (mkF m 0 #[rv a0, iv 4, .unset] []) tz → Steps p.tables e below (s₁.setTop (entryFrame m #[(.ref a0), (.int 4)] 3)) tz := fun tz kz => castTop (by first | (simp [entryFrame, mkF, argsToLocals, Value.category]; done) | rfl) kz
  obtain ⟨T1, X1, e1, st1⟩ := initO X0 hx hZ hown (hw _ (own_w 6 rfl)) (hw _ (own_w 7 rfl)) (hw _ (own_w 8 rfl)) e0 (g := (mkF m 1 #[rv a0, iv 4, .unset] [(.ref a0)])) rfl (by rw [hml]; rfl) rfl (hb hby d1_1) (by decide) (W := 0) (by show 2 * 0 + _ ≤ _; exact Nat.le_of_eq rfl) (by decide)
  obtain ⟨T2, h2, k2, X2, e2, E2, A2, st2⟩ := newP X1 hx hZ (hw _ (own_w 9 rfl)) e1 (g := (mkF m 6 #[rv a0, iv 4, .unset] [(.int 4), (.ref a0)])) rfl (hb hby d1_6) rfl (by decide) (cap := 4) (by decide) (by decide) (by decide) (by decide)
  obtain ⟨b2, g2⟩ : ∃ z, z = h0.size := ⟨_, rfl⟩
  rw [← g2] at A2 st2
  have ne_a0_b2 : a0 ≠ b2 := Nat.ne_of_lt (Nat.lt_of_lt_of_le hEx.lt (Nat.le_of_eq g2.symm))
  have ge_b2 : n0 ≤ b2 := Nat.le_trans Z0 (Nat.le_of_eq g2.symm)
  have sz_b2 : h0.size ≤ b2 := Nat.le_of_eq g2.symm
  have Z2 : n0 ≤ h2.size := Nat.le_trans Z0 E2.1
  have K2 : Keep h0 h2 [a0] := (Keep.refl h0 [a0]).ext E2
  have V2 : Arv Z h2 b2 k2 .int (4 : Int32) [(.int (0 : Int32)), (.int (0 : Int32)), (.int (0 : Int32)), (.int (0 : Int32))] (.int (0 : Int32)) := (Arv.new A2 (by decide)).pad (pad_rep [] (.int (0 : Int32)) 4)
  have f3 := (hFp.ext E2)
  have f4 := (hEx.ext E2)
  obtain ⟨T5, h5, X5, e5, W5, st5⟩ := putF X2 hx hZ hown (host := "") (Or.inl (hw _ (own_w 10 rfl))) Via.refl e2 f3 f4 (Or.inr ⟨(hw _ (own_w 11 rfl)), rfl, hnm⟩) (hw _ (own_w 1 rfl)) (ty := (.array .int)) (by decide) rfl rfl (g := (mkF m 8 #[rv a0, iv 4, .unset] [(.ref b2), (.ref a0)])) rfl rfl (hb hby d1_8)
  have N5 := Fr.snoc X5 N0 hga
  have Z5 : n0 ≤ h5.size := Nat.le_trans Z2 (Nat.le_of_eq W5.size.symm)
  have K5 : Keep h0 h5 [a0] := K2.wr W5 (Or.inl (List.mem_of_getElem? (i := 0) rfl))
  have Fw5 := f3.same W5
  obtain ⟨T6, X6, e6, st6⟩ := getF X5 hx hZ hown (host := "") (Or.inl (hw _ (own_w 10 rfl))) Via.refl e5 Fw5 (g := (mkF m 19 #[rv a0, iv 4, iv 0] [(.ref a0)])) rfl rfl (hb hby d1_19)
  have f7 := (V2.other W5 (Ne.symm ne_a0_b2))
  obtain ⟨cl8, Ar8, qk8, Sz8, Ng8, Hs8, Gs8⟩ := id f7
  have hin8 : ¬ ((0 : Int32) < 0 ∨ cl8.slots.size ≤ ((0 : Int32)).toNatClampNeg) := inb_of Sz8 ⟨by decide, by decide⟩
  obtain ⟨T9, h9, X9, e9, W9, st9⟩ := stI X6 hx hZ e6 Ar8 (j := (0 : Int32)) hin8 (g := (mkF m 24 #[rv a0, iv 4, iv 0] [(.int 0), (.int 0), (.ref b2)])) rfl rfl (hb hby d1_24)
  have N9 := Fr.snoc X9 N5 ge_b2
  have Z9 : n0 ≤ h9.size := Nat.le_trans Z5 (Nat.le_of_eq W9.size.symm)
  have K9 : Keep h0 h9 [a0] := K5.wr W9 (Or.inr sz_b2)
  have V9 : Arv Z h9 b2 k2 .int (4 : Int32) [(.int 0), (.int (0 : Int32)), (.int (0 : Int32)), (.int (0 : Int32))] (.int (0 : Int32)) := Arv.set Ar8 qk8 Sz8 Ng8 Hs8 Gs8 rfl W9 0 rfl (Nat.le_of_ble_eq_true rfl)
  have f10 := (Fw5.other W9 (Or.inl ne_a0_b2))
  obtain ⟨T11, X11, e11, st11⟩ := getF X9 hx hZ hown (host := "") (Or.inl (hw _ (own_w 10 rfl))) Via.refl e9 f10 (g := (mkF m 19 #[rv a0, iv 4, iv 1] [(.ref a0)])) rfl rfl (hb hby d1_19)
  obtain ⟨cl12, Ar12, qk12, Sz12, Ng12, Hs12, Gs12⟩ := id V9
  have hin12 : ¬ ((1 : Int32) < 0 ∨ cl12.slots.size ≤ ((1 : Int32)).toNatClampNeg) := inb_of Sz12 ⟨by decide, by decide⟩
  obtain ⟨T13, h13, X13, e13, W13, st13⟩ := stI X11 hx hZ e11 Ar12 (j := (1 : Int32)) hin12 (g := (mkF m 24 #[rv a0, iv 4, iv 1] [(.int 1), (.int 1), (.ref b2)])) rfl rfl (hb hby d1_24)
  have N13 := Fr.snoc X13 N9 ge_b2
  have Z13 : n0 ≤ h13.size := Nat.le_trans Z9 (Nat.le_of_eq W13.size.symm)
  have K13 : Keep h0 h13 [a0] := K9.wr W13 (Or.inr sz_b2)
  have V13 : Arv Z h13 b2 k2 .int (4 : Int32) [(.int 0), (.int 1), (.int (0 : Int32)), (.int (0 : Int32))] (.int (0 : Int32)) := Arv.set Ar12 qk12 Sz12 Ng12 Hs12 Gs12 rfl W13 1 rfl (Nat.le_of_ble_eq_true rfl)
  have f14 := (f10.other W13 (Or.inl ne_a0_b2))
  obtain ⟨T15, X15, e15, st15⟩ := getF X13 hx hZ hown (host := "") (Or.inl (hw _ (own_w 10 rfl))) Via.refl e13 f14 (g := (mkF m 19 #[rv a0, iv 4, iv 2] [(.ref a0)])) rfl rfl (hb hby d1_19)
  obtain ⟨cl16, Ar16, qk16, Sz16, Ng16, Hs16, Gs16⟩ := id V13
  have hin16 : ¬ ((2 : Int32) < 0 ∨ cl16.slots.size ≤ ((2 : Int32)).toNatClampNeg) := inb_of Sz16 ⟨by decide, by decide⟩
  obtain ⟨T17, h17, X17, e17, W17, st17⟩ := stI X15 hx hZ e15 Ar16 (j := (2 : Int32)) hin16 (g := (mkF m 24 #[rv a0, iv 4, iv 2] [(.int 2), (.int 2), (.ref b2)])) rfl rfl (hb hby d1_24)
  have N17 := Fr.snoc X17 N13 ge_b2
  have Z17 : n0 ≤ h17.size := Nat.le_trans Z13 (Nat.le_of_eq W17.size.symm)
  have K17 : Keep h0 h17 [a0] := K13.wr W17 (Or.inr sz_b2)
  have V17 : Arv Z h17 b2 k2 .int (4 : Int32) [(.int 0), (.int 1), (.int 2), (.int (0 : Int32))] (.int (0 : Int32)) := Arv.set Ar16 qk16 Sz16 Ng16 Hs16 Gs16 rfl W17 2 rfl (Nat.le_of_ble_eq_true rfl)
  have f18 := (f14.other W17 (Or.inl ne_a0_b2))
  obtain ⟨T19, X19, e19, st19⟩ := getF X17 hx hZ hown (host := "") (Or.inl (hw _ (own_w 10 rfl))) Via.refl e17 f18 (g := (mkF m 19 #[rv a0, iv 4, iv 3] [(.ref a0)])) rfl rfl (hb hby d1_19)
  obtain ⟨cl20, Ar20, qk20, Sz20, Ng20, Hs20, Gs20⟩ := id V17
  have hin20 : ¬ ((3 : Int32) < 0 ∨ cl20.slots.size ≤ ((3 : Int32)).toNatClampNeg) := inb_of Sz20 ⟨by decide, by decide⟩
  obtain ⟨T21, h21, X21, e21, W21, st21⟩ := stI X19 hx hZ e19 Ar20 (j := (3 : Int32)) hin20 (g := (mkF m 24 #[rv a0, iv 4, iv 3] [(.int 3), (.int 3), (.ref b2)])) rfl rfl (hb hby d1_24)
  have N21 := Fr.snoc X21 N17 ge_b2
  have Z21 : n0 ≤ h21.size := Nat.le_trans Z17 (Nat.le_of_eq W21.size.symm)
  have K21 : Keep h0 h21 [a0] := K17.wr W21 (Or.inr sz_b2)
  have V21 : Arv Z h21 b2 k2 .int (4 : Int32) [(.int 0), (.int 1), (.int 2), (.int 3)] (.int (0 : Int32)) := Arv.set Ar20 qk20 Sz20 Ng20 Hs20 Gs20 rfl W21 3 rfl (Nat.le_of_ble_eq_true rfl)
  have f22 := ((((((hFc.ext E2).other W5 (Or.inr (slot_ne (Or.inl (hw _ (own_w 13 rfl))) (Or.inr (hw _ (own_w 11 rfl))) (by decide) (t := .int) (t' := (.array .int)) (by decide) (by decide)))).other W9 (Or.inl ne_a0_b2)).other W13 (Or.inl ne_a0_b2)).other W17 (Or.inl ne_a0_b2)).other W21 (Or.inl ne_a0_b2))
  have f23 := (((((f4.wr W5).wr W9).wr W13).wr W17).wr W21)
  obtain ⟨T24, h24, X24, e24, W24, st24⟩ := putF X21 hx hZ hown (host := "") (Or.inl (hw _ (own_w 12 rfl))) Via.refl e21 f22 f23 (Or.inl (hw _ (own_w 13 rfl))) (hw _ (own_w 1 rfl)) (ty := .int) (by decide) rfl rfl (g := (mkF m 33 #[rv a0, iv 4, iv 4] [(.int 4), (.ref a0)])) rfl rfl (hb hby d1_33)
  have N24 := Fr.snoc X24 N21 hga
  have Z24 : n0 ≤ h24.size := Nat.le_trans Z21 (Nat.le_of_eq W24.size.symm)
  have K24 : Keep h0 h24 [a0] := K21.wr W24 (Or.inl (List.mem_of_getElem? (i := 0) rfl))
  have Fw24 := f22.same W24
  have S25 : ∀ tz, oS p e below T24 (mkF m 36 #[rv a0, iv 4, iv 4] []) tz → oS p e below s₁ (mkF m 0 #[rv a0, iv 4, .unset] []) tz := fun tz kz => id (by
    show oS p e below s₁ (mkF m 0 #[rv a0, iv 4, .unset] []) _
    refine XS.aloadN X0.here hx rfl (hb hby d1_0) rfl rfl ?_
    refine st1 _ ?_
    refine XS.aloadN X1.here hx rfl (hb hby d1_4) rfl rfl ?_
    refine XS.iloadN X1.here hx rfl (hb hby d1_5) rfl ?_
    refine st2 _ ?_
    refine st5 _ ?_
    refine XT.iconstV X5.here hx rfl (0 : Int32) (hb hby d1_11) (by decide) ?_
    refine XS.istoreN X5.here hx rfl (hb hby d1_12) rfl (l' := #[rv a0, iv 4, iv 0]) rfl ?_
    show oS p e below T5 (mkF m 13 #[rv a0, iv 4, iv 0] []) _
    refine XS.iloadN X5.here hx rfl (hb hby d1_13) rfl ?_
    refine XS.iloadN X5.here hx rfl (hb hby d1_14) rfl ?_
    refine XS.icmpNo X5.here hx rfl (hb hby d1_15) rfl (XT.ii_ge_f (by decide)) ?_
    refine XS.aloadN X5.here hx rfl (hb hby d1_18) rfl rfl ?_
    refine st6 _ ?_
    refine XS.iloadN X6.here hx rfl (hb hby d1_22) rfl ?_
    refine XS.iloadN X6.here hx rfl (hb hby d1_23) rfl ?_
    refine st9 _ ?_
    show oS p e below T9 (mkF m 25 #[rv a0, iv 4, iv 0] []) _
    refine XT.iincV X9.here hx rfl (1 : Int32) (hb hby d1_25) (by decide) rfl (l' := #[rv a0, iv 4, iv 1]) rfl ?_
    refine XS.goto X9.here hx rfl (pc0 := 28) (pc' := 13) rfl (hb hby d1_28) (by decide) (by decide) ?_
    refine XS.iloadN X9.here hx rfl (hb hby d1_13) rfl ?_
    refine XS.iloadN X9.here hx rfl (hb hby d1_14) rfl ?_
    refine XS.icmpNo X9.here hx rfl (hb hby d1_15) rfl (XT.ii_ge_f (by decide)) ?_
    refine XS.aloadN X9.here hx rfl (hb hby d1_18) rfl rfl ?_
    refine st11 _ ?_
    refine XS.iloadN X11.here hx rfl (hb hby d1_22) rfl ?_
    show oS p e below T11 (mkF m 23 #[rv a0, iv 4, iv 1] [(.int 1), (.ref b2)]) _
    refine XS.iloadN X11.here hx rfl (hb hby d1_23) rfl ?_
    refine st13 _ ?_
    refine XT.iincV X13.here hx rfl (1 : Int32) (hb hby d1_25) (by decide) rfl (l' := #[rv a0, iv 4, iv 2]) rfl ?_
    refine XS.goto X13.here hx rfl (pc0 := 28) (pc' := 13) rfl (hb hby d1_28) (by decide) (by decide) ?_
    refine XS.iloadN X13.here hx rfl (hb hby d1_13) rfl ?_
    refine XS.iloadN X13.here hx rfl (hb hby d1_14) rfl ?_
    refine XS.icmpNo X13.here hx rfl (hb hby d1_15) rfl (XT.ii_ge_f (by decide)) ?_
    refine XS.aloadN X13.here hx rfl (hb hby d1_18) rfl rfl ?_
    show oS p e below T13 (mkF m 19 #[rv a0, iv 4, iv 2] [(.ref a0)]) _
    refine st15 _ ?_
    refine XS.iloadN X15.here hx rfl (hb hby d1_22) rfl ?_
    refine XS.iloadN X15.here hx rfl (hb hby d1_23) rfl ?_
    refine st17 _ ?_
    refine XT.iincV X17.here hx rfl (1 : Int32) (hb hby d1_25) (by decide) rfl (l' := #[rv a0, iv 4, iv 3]) rfl ?_
    refine XS.goto X17.here hx rfl (pc0 := 28) (pc' := 13) rfl (hb hby d1_28) (by decide) (by decide) ?_
    refine XS.iloadN X17.here hx rfl (hb hby d1_13) rfl ?_
    refine XS.iloadN X17.here hx rfl (hb hby d1_14) rfl ?_
    show oS p e below T17 (mkF m 15 #[rv a0, iv 4, iv 3] [(.int 4), (.int 3)]) _
    refine XS.icmpNo X17.here hx rfl (hb hby d1_15) rfl (XT.ii_ge_f (by decide)) ?_
    refine XS.aloadN X17.here hx rfl (hb hby d1_18) rfl rfl ?_
    refine st19 _ ?_
    refine XS.iloadN X19.here hx rfl (hb hby d1_22) rfl ?_
    refine XS.iloadN X19.here hx rfl (hb hby d1_23) rfl ?_
    refine st21 _ ?_
    refine XT.iincV X21.here hx rfl (1 : Int32) (hb hby d1_25) (by decide) rfl (l' := #[rv a0, iv 4, iv 4]) rfl ?_
    refine XS.goto X21.here hx rfl (pc0 := 28) (pc' := 13) rfl (hb hby d1_28) (by decide) (by decide) ?_
    show oS p e below T21 (mkF m 13 #[rv a0, iv 4, iv 4] []) _
    refine XS.iloadN X21.here hx rfl (hb hby d1_13) rfl ?_
    refine XS.iloadN X21.here hx rfl (hb hby d1_14) rfl ?_
    refine XS.icmpYes X21.here hx rfl (pc0 := 15) (pc' := 31) rfl (hb hby d1_15) rfl (XT.ii_ge_t (by decide)) (by decide) (by decide) ?_
    refine XS.aloadN X21.here hx rfl (hb hby d1_31) rfl rfl ?_
    refine XS.iloadN X21.here hx rfl (hb hby d1_32) rfl ?_
    refine st24 _ ?_
    exact kz)
  obtain ⟨fs, hr, hrun, hended, hW, hsame⟩ := X24.leave (v := none) (fun _ => rfl)
  refine ⟨_, _, pre0 _ (S25 _ ?_), hrun, hended, _, _, rfl, ?_, ⟨_, rfl⟩, hW, hsame.mono (by decide) (by decide)⟩
  · exact X24.returnOut hx Bd.returns (hb hby d1_36) hr
  have f26 := ((f18.other W21 (Or.inl ne_a0_b2)).other W24 (Or.inr (slot_ne (Or.inr (hw _ (own_w 11 rfl))) (Or.inl (hw _ (own_w 13 rfl))) (by decide) (t := (.array .int)) (t' := .int) (by decide) (by decide))))
  have f27 := (V21.other W24 (Ne.symm ne_a0_b2))
  · show QCtor Z a0 4 h0 n0 _ T24.heap _
    rw [e24]
    exact ⟨b2, _, rfl, N24, sz_b2, K24, f26, Fw24, f27⟩
theorem rmCtor (l : Launch) (Z : State) (av0 : Array Value) (hw : ∀ d ∈ tables_1, d.before av0 Z = true) (ws : List Jvm.Cond) (a0 : Addr) (nn : Nat) (h0 : Heap) (n0 : Nat) (Z0 : n0 ≤ h0.size) (hEx : Exa Z h0 a0 "com/example/graftwork/graftwork/generate/Components") (hFp : Fld Z h0 a0 "com/example/graftwork/graftwork/generate/Components" "parent" "[I" .null) (hFc : Fld Z h0 a0 "com/example/graftwork/graftwork/generate/Components" "count" "I" (.int (0 : Int32))) (hga : n0 ≤ a0) (h1 : 1 ≤ nn) (hnn : nn ≤ 4) :
    own_Met l mN6 prog_24_method_1_code 3 none ws ({ frames := 1, cells := 1, slots := 4, locals := 12 } : Room) #[(.ref a0), (.int (own_n nn))] Z h0 (QCtor Z a0 nn h0 n0) := by
  match nn, h1, hnn with
  | 1, _, _ => exact rmCtor1 l Z av0 hw ws a0 h0 n0 Z0 hEx hFp hFc hga
  | 2, _, _ => exact rmCtor2 l Z av0 hw ws a0 h0 n0 Z0 hEx hFp hFc hga
  | 3, _, _ => exact rmCtor3 l Z av0 hw ws a0 h0 n0 Z0 hEx hFp hFc hga
  | 4, _, _ => exact rmCtor4 l Z av0 hw ws a0 h0 n0 Z0 hEx hFp hFc hga
theorem pd__I_V : parseMethodDescriptor "(I)V" = some ⟨[.int], none⟩ := by decide +kernel
theorem pd__II_I : parseMethodDescriptor "(II)I" = some ⟨[.int, .int], some .int⟩ := by decide +kernel
theorem pd__II_Z : parseMethodDescriptor "(II)Z" = some ⟨[.int, .int], some .boolean⟩ := by decide +kernel
theorem pd__III_Z : parseMethodDescriptor "([III)Z" = some ⟨[(.array .int), .int, .int], some .boolean⟩ := by decide +kernel
theorem pd__I : parseMethodDescriptor "()I" = some ⟨[], some .int⟩ := by decide +kernel
def Qrm0s (Z : State) (p0 : Int32) (p1 : Int32) (p2 : Int32) (p3 : Int32) (p4 : Int32) (nn : Nat) (h0 : Heap) (n0 : Nat) (v : Option Value) (h : Heap) (L : List Loc) : Prop := v = some (.int (1 : Int32)) ∧ Fr n0 L
set_option maxRecDepth 65536 in
set_option maxHeartbeats 40000000 in
theorem rm0s (l : Launch) (Z : State) (av0 : Array Value) (hw : ∀ d ∈ tables_1, d.before av0 Z = true) (ws : List Jvm.Cond) (p0 : Int32) (p1 : Int32) (p2 : Int32) (p3 : Int32) (p4 : Int32) (nn : Nat) (h0 : Heap) (n0 : Nat) (Z0 : n0 ≤ h0.size) (hone : 1 ≤ nn) (hnn : nn ≤ 4) (hn : (1 : Int32) + (p0 &&& (3 : Int32)) = own_n nn) :
    MetFree l x (head1 (Jvm.Cond.code x code maxLocals ret :: ws) room_1) (fun aU U => aU = #[(.int p0), (.int p1), (.int p2), (.int p3), (.int p4)] ∧ Z.Warmed39 U.vm ∧ U.heap = h0) (fun _ _ _ _ _ => True) (fun _ U oU U' => ∃ vU LU, oU = .returned vU ∧ Qrm0s Z p0 p1 p2 p3 p4 nn h0 n0 vU U'.heap LU ∧ FrameEnd U oU U' LU room_1.cells room_1.slots) := by
  refine MetFree.of_bodySF (plainFor_of_name pn_ComponentsJoinPinLaw) hisR ?_
  intro p e s m args below meth c s₁ Bd hml0 hP hK
  obtain ⟨rfl, hZ, hh⟩ := hP
  have hml : c.maxLocals = 26 := hml0
  obtain ⟨hx, hby, hown, hnm, X0, e0⟩ := own_start Bd hml0 hh
  have N0 := Fr.nil n0
  have pre0 : ∀ tz, oS p e below s₁ (mkF m 0 #[iv p0, iv p1, iv p2, iv p3, iv p4, .unset, .unset, .unset, .unset, .unset, .unset, .unset, .unset, .unset, .unset, .unset, .unset, .unset, .unset, .unset, .unset, .unset, .unset, .unset, .unset, .unset] []) tz → Steps p.tables e below (s₁.setTop (entryFrame m #[(.int p0), (.int p1), (.int p2), (.int p3), (.int p4)] maxLocals)) tz := fun tz kz => castTop (by first | (simp [entryFrame, mkF, argsToLocals, Value.category, maxLocals]; done) | rfl) kz
  obtain ⟨T1, h1, X1, e1, E1, A1, D1, -, st1⟩ := newO X0 hx hZ hown (hw _ (own_w 0 rfl)) (hw _ (own_w 1 rfl)) (hw _ (own_w 2 rfl)) e0 (g := (mkF m 7 #[iv p0, iv p1, iv p2, iv p3, iv p4, iv (own_n nn), .unset, .unset, .unset, .unset, .unset, .unset, .unset, .unset, .unset, .unset, .unset, .unset, .unset, .unset, .unset, .unset, .unset, .unset, .unset, .unset] [])) rfl (hb hby at_7) (by decide) (by decide)
  obtain ⟨b1, g1⟩ : ∃ z, z = h0.size := ⟨_, rfl⟩
  rw [← g1] at A1 D1 st1
  have ge_b1 : n0 ≤ b1 := Nat.le_trans Z0 (Nat.le_of_eq g1.symm)
  have sz_b1 : h0.size ≤ b1 := Nat.le_of_eq g1.symm
  have Z1 : n0 ≤ h1.size := Nat.le_trans Z0 E1.1
  have K1 : Keep h0 h1 [] := (Keep.refl h0 []).ext E1
  have F1_parent : Fld Z h1 b1 "com/example/graftwork/graftwork/generate/Components" "parent" "[I" .null := D1 (Or.inr (hw _ (own_w 11 rfl))) (ty := (.array .int)) (by decide)
  have F1_count : Fld Z h1 b1 "com/example/graftwork/graftwork/generate/Components" "count" "I" (.int 0) := D1 (Or.inl (hw _ (own_w 13 rfl))) (ty := .int) (by decide)
  obtain ⟨_, T2, Lc2, X2, hQ2, st2⟩ := own_special (W := 1) (y := mN6) X1 hx hZ rfl hown (hw _ (own_w 3 rfl)) (hw _ (own_w 4 rfl)) (hw _ (own_w 5 rfl)) (hw _ (own_w 2 rfl)) (by decide) (rmCtor l Z av0 hw [] b1 nn h1 n0 Z1 A1 F1_parent F1_count ge_b1 hone hnn) (by decide) (by decide) (g := (mkF m 13 #[iv p0, iv p1, iv p2, iv p3, iv p4, iv (own_n nn), .unset, .unset, .unset, .unset, .unset, .unset, .unset, .unset, .unset, .unset, .unset, .unset, .unset, .unset, .unset, .unset, .unset, .unset, .unset, .unset] [(.int (own_n nn)), (.ref b1), (.ref b1)])) rfl (by rw [hml]; rfl) (a := b1) (argsL := [(.int (own_n nn))]) (rest := [(.ref b1)]) (lenOf pd__I_V rfl) rfl (hb hby at_13) rfl e1 (by decide : 1 + 1 ≤ _) (by decide : 2 + 4 ≤ _)
  obtain ⟨b2', k2', rfl, N2q, gq2, K2, P2, C2, A2⟩ := hQ2
  have N2 := Fr.app N0 N2q
  have e2 : T2.heap = T2.heap := rfl
  have ne_b1_b2' : b1 ≠ b2' := Nat.ne_of_lt (Nat.lt_of_lt_of_le A1.lt gq2)
  have ge_b2' : n0 ≤ b2' := Nat.le_trans Z1 gq2
  have sz_b2' : h0.size ≤ b2' := Nat.le_trans K1.1 gq2
  have Zk2 : n0 ≤ T2.heap.size := Nat.le_trans Z1 K2.1
  have Kk2 : Keep h0 T2.heap [] := K1.trans K2 (allS (Or.inr sz_b1) all0)
  have I2 := own_Inv0 nn
  have RL2 := own_lab0 hnn
  obtain ⟨T3, h3, k3, X3, e3, E3, A3, st3⟩ := newP X2 hx hZ (hw _ (own_w 9 rfl)) e2 (g := (mkF m 19 #[iv p0, iv p1, iv p2, iv p3, iv p4, iv (own_n nn), rv b1, .unset, .unset, .unset, .unset, .unset, .unset, .unset, .unset, .unset, .unset, .unset, .unset, .unset, .unset, .unset, .unset, .unset, .unset, .unset] [(.int 4)])) rfl (hb hby at_19) rfl (by decide) (cap := 4) (by decide) (by decide) (by decide) (by decide)
  obtain ⟨b3, g3⟩ : ∃ z, z = T2.heap.size := ⟨_, rfl⟩
  rw [← g3] at A3 st3
  have f4 := (A1.keep K2)
  have ne_b1_b3 : b1 ≠ b3 := Nat.ne_of_lt (Nat.lt_of_lt_of_le f4.lt (Nat.le_of_eq g3.symm))
  have ne_b2'_b3 : b2' ≠ b3 := Nat.ne_of_lt (Nat.lt_of_lt_of_le A2.lt (Nat.le_of_eq g3.symm))
  have ge_b3 : n0 ≤ b3 := Nat.le_trans Zk2 (Nat.le_of_eq g3.symm)
  have sz_b3 : h0.size ≤ b3 := Nat.le_trans Kk2.1 (Nat.le_of_eq g3.symm)
  have Z3 : n0 ≤ h3.size := Nat.le_trans Zk2 E3.1
  have K3 : Keep h0 h3 [] := Kk2.ext E3
  have V3 : Arv Z h3 b3 k3 .int (4 : Int32) [(.int (0 : Int32)), (.int (0 : Int32)), (.int (0 : Int32)), (.int (0 : Int32))] (.int (0 : Int32)) := (Arv.new A3 (by decide)).pad (pad_rep [] (.int (0 : Int32)) 4)
  obtain ⟨cl5, Ar5, qk5, Sz5, Ng5, Hs5, Gs5⟩ := id V3
  have hin5 : ¬ ((0 : Int32) < 0 ∨ cl5.slots.size ≤ ((0 : Int32)).toNatClampNeg) := inb_of Sz5 ⟨by decide, by decide⟩
  obtain ⟨T6, h6, X6, e6, W6, st6⟩ := stI X3 hx hZ e3 Ar5 (j := (0 : Int32)) hin5 (g := (mkF m 24 #[iv p0, iv p1, iv p2, iv p3, iv p4, iv (own_n nn), rv b1, .unset, .unset, .unset, .unset, .unset, .unset, .unset, .unset, .unset, .unset, .unset, .unset, .unset, .unset, .unset, .unset, .unset, .unset, .unset] [(.int 0), (.int 0), (.ref b3), (.ref b3)])) rfl rfl (hb hby at_24)
  have N6 := Fr.snoc X6 N2 ge_b3
  have Z6 : n0 ≤ h6.size := Nat.le_trans Z3 (Nat.le_of_eq W6.size.symm)
  have K6 : Keep h0 h6 [] := K3.wr W6 (Or.inr sz_b3)
  have V6 : Arv Z h6 b3 k3 .int (4 : Int32) [(.int 0), (.int (0 : Int32)), (.int (0 : Int32)), (.int (0 : Int32))] (.int (0 : Int32)) := Arv.set Ar5 qk5 Sz5 Ng5 Hs5 Gs5 rfl W6 0 rfl (Nat.le_of_ble_eq_true rfl)
  obtain ⟨cl7, Ar7, qk7, Sz7, Ng7, Hs7, Gs7⟩ := id V6
  have hin7 : ¬ ((1 : Int32) < 0 ∨ cl7.slots.size ≤ ((1 : Int32)).toNatClampNeg) := inb_of Sz7 ⟨by decide, by decide⟩
  obtain ⟨T8, h8, X8, e8, W8, st8⟩ := stI X6 hx hZ e6 Ar7 (j := (1 : Int32)) hin7 (g := (mkF m 28 #[iv p0, iv p1, iv p2, iv p3, iv p4, iv (own_n nn), rv b1, .unset, .unset, .unset, .unset, .unset, .unset, .unset, .unset, .unset, .unset, .unset, .unset, .unset, .unset, .unset, .unset, .unset, .unset, .unset] [(.int 1), (.int 1), (.ref b3), (.ref b3)])) rfl rfl (hb hby at_28)
  have N8 := Fr.snoc X8 N6 ge_b3
  have Z8 : n0 ≤ h8.size := Nat.le_trans Z6 (Nat.le_of_eq W8.size.symm)
  have K8 : Keep h0 h8 [] := K6.wr W8 (Or.inr sz_b3)
  have V8 : Arv Z h8 b3 k3 .int (4 : Int32) [(.int 0), (.int 1), (.int (0 : Int32)), (.int (0 : Int32))] (.int (0 : Int32)) := Arv.set Ar7 qk7 Sz7 Ng7 Hs7 Gs7 rfl W8 1 rfl (Nat.le_of_ble_eq_true rfl)
  obtain ⟨cl9, Ar9, qk9, Sz9, Ng9, Hs9, Gs9⟩ := id V8
  have hin9 : ¬ ((2 : Int32) < 0 ∨ cl9.slots.size ≤ ((2 : Int32)).toNatClampNeg) := inb_of Sz9 ⟨by decide, by decide⟩
  obtain ⟨T10, h10, X10, e10, W10, st10⟩ := stI X8 hx hZ e8 Ar9 (j := (2 : Int32)) hin9 (g := (mkF m 32 #[iv p0, iv p1, iv p2, iv p3, iv p4, iv (own_n nn), rv b1, .unset, .unset, .unset, .unset, .unset, .unset, .unset, .unset, .unset, .unset, .unset, .unset, .unset, .unset, .unset, .unset, .unset, .unset, .unset] [(.int 2), (.int 2), (.ref b3), (.ref b3)])) rfl rfl (hb hby at_32)
  have N10 := Fr.snoc X10 N8 ge_b3
  have Z10 : n0 ≤ h10.size := Nat.le_trans Z8 (Nat.le_of_eq W10.size.symm)
  have K10 : Keep h0 h10 [] := K8.wr W10 (Or.inr sz_b3)
  have V10 : Arv Z h10 b3 k3 .int (4 : Int32) [(.int 0), (.int 1), (.int 2), (.int (0 : Int32))] (.int (0 : Int32)) := Arv.set Ar9 qk9 Sz9 Ng9 Hs9 Gs9 rfl W10 2 rfl (Nat.le_of_ble_eq_true rfl)
  obtain ⟨cl11, Ar11, qk11, Sz11, Ng11, Hs11, Gs11⟩ := id V10
  have hin11 : ¬ ((3 : Int32) < 0 ∨ cl11.slots.size ≤ ((3 : Int32)).toNatClampNeg) := inb_of Sz11 ⟨by decide, by decide⟩
  obtain ⟨T12, h12, X12, e12, W12, st12⟩ := stI X10 hx hZ e10 Ar11 (j := (3 : Int32)) hin11 (g := (mkF m 36 #[iv p0, iv p1, iv p2, iv p3, iv p4, iv (own_n nn), rv b1, .unset, .unset, .unset, .unset, .unset, .unset, .unset, .unset, .unset, .unset, .unset, .unset, .unset, .unset, .unset, .unset, .unset, .unset, .unset] [(.int 3), (.int 3), (.ref b3), (.ref b3)])) rfl rfl (hb hby at_36)
  have N12 := Fr.snoc X12 N10 ge_b3
  have Z12 : n0 ≤ h12.size := Nat.le_trans Z10 (Nat.le_of_eq W12.size.symm)
  have K12 : Keep h0 h12 [] := K10.wr W12 (Or.inr sz_b3)
  have V12 : Arv Z h12 b3 k3 .int (4 : Int32) [(.int 0), (.int 1), (.int 2), (.int 3)] (.int (0 : Int32)) := Arv.set Ar11 qk11 Sz11 Ng11 Hs11 Gs11 rfl W12 3 rfl (Nat.le_of_ble_eq_true rfl)
  obtain ⟨_, T13, Lc13, X13, hQ13, st13⟩ := own_callS (W := 0) (y := mN1) X12 hx hZ hown (hw _ (own_w 14 rfl)) (hw _ (own_w 15 rfl)) (hw _ (own_w 16 rfl)) (hw _ (own_w 17 rfl)) (by decide) (rmFirst l Z av0 hw [] p1 nn h12 n0 Z12 hone hnn) (by decide) (by decide) (g := (mkF m 49 #[iv p0, iv p1, iv p2, iv p3, iv p4, iv (own_n nn), rv b1, rv b3, iv (own_n nn), iv 1, .unset, .unset, .unset, .unset, .unset, .unset, .unset, .unset, .unset, .unset, .unset, .unset, .unset, .unset, .unset, .unset] [(.int (own_n nn)), (.int p1)])) rfl (by rw [hml]; rfl) (argsL := [(.int p1), (.int (own_n nn))]) (rest := []) (lenOf pd__II_I rfl) rfl (hb hby at_49) rfl e12 (by decide : 3 + 0 ≤ _) (by decide : 10 + 0 ≤ _)
  obtain ⟨kq13, lq13, rfl, N13q, hh13⟩ := hQ13
  have N13 := Fr.app N12 N13q
  have e13 : T13.heap = h12 := hh13
  obtain ⟨_, T14, Lc14, X14, hQ14, st14⟩ := own_callS (W := 0) (y := mN2) X13 hx hZ hown (hw _ (own_w 18 rfl)) (hw _ (own_w 19 rfl)) (hw _ (own_w 16 rfl)) (hw _ (own_w 20 rfl)) (by decide) (rmSecond l Z av0 hw [] p1 nn h12 n0 Z12 hone hnn) (by decide) (by decide) (g := (mkF m 57 #[iv p0, iv p1, iv p2, iv p3, iv p4, iv (own_n nn), rv b1, rv b3, iv (own_n nn), iv 1, iv (own_n kq13), .unset, .unset, .unset, .unset, .unset, .unset, .unset, .unset, .unset, .unset, .unset, .unset, .unset, .unset, .unset] [(.int (own_n nn)), (.int p1)])) rfl (by rw [hml]; rfl) (argsL := [(.int p1), (.int (own_n nn))]) (rest := []) (lenOf pd__II_I rfl) rfl (hb hby at_57) rfl e13 (by decide : 3 + 0 ≤ _) (by decide : 10 + 0 ≤ _)
  obtain ⟨kq14, lq14, rfl, N14q, hh14⟩ := hQ14
  have N14 := Fr.app N13 N14q
  have e14 : T14.heap = h12 := hh14
  have f15 := (((((f4.ext E3).wr W6).wr W8).wr W10).wr W12)
  have f16 := (((((P2.ext E3).other W6 (Or.inl ne_b1_b3)).other W8 (Or.inl ne_b1_b3)).other W10 (Or.inl ne_b1_b3)).other W12 (Or.inl ne_b1_b3))
  have f17 := (((((C2.ext E3).other W6 (Or.inl ne_b1_b3)).other W8 (Or.inl ne_b1_b3)).other W10 (Or.inl ne_b1_b3)).other W12 (Or.inl ne_b1_b3))
  have f18 := (((((A2.ext E3).other W6 ne_b2'_b3).other W8 ne_b2'_b3).other W10 ne_b2'_b3).other W12 ne_b2'_b3)
  obtain ⟨_, T19, Lc19, X19, hQ19, st19⟩ := own_virtual (W := 0) (y := mN4) (z := mN4) X14 hx hZ hown (hw _ (own_w 21 rfl)) (hw _ (own_w 22 rfl)) (notFace_of_selects (args := #[]) (mvT hZ (hw _ (own_w 24 rfl)))) (hw _ (own_w 24 rfl)) (hw _ (own_w 23 rfl)) (hw _ (own_w 25 rfl)) (hw _ (own_w 2 rfl)) (by decide) (rmJoin l Z av0 hw [] b1 b2' k2' nn (fun i => i) (fun i => i) (fun _ => 0) kq13 kq14 (own_n nn) h12 n0 Z12 hnn f15 f16 f17 f18 I2 lq13 lq14 ge_b1 ge_b2' ne_b1_b2') (by decide) (by decide) f15 (g := (mkF m 68 #[iv p0, iv p1, iv p2, iv p3, iv p4, iv (own_n nn), rv b1, rv b3, iv (own_n nn), iv 1, iv (own_n kq13), iv (own_n kq14), .unset, .unset, .unset, .unset, .unset, .unset, .unset, .unset, .unset, .unset, .unset, .unset, .unset, .unset] [(.int (own_n kq14)), (.int (own_n kq13)), (.ref b1)])) rfl (by rw [hml]; rfl) (argsL := [(.int (own_n kq13)), (.int (own_n kq14))]) (rest := []) (lenOf pd__II_Z rfl) rfl (hb hby at_68) rfl e14 (by decide : 3 + 0 ≤ _) (by decide : 10 + 0 ≤ _)
  rcases hQ19 with ⟨rfl, N19q, rs19, K19, P19, C19, f19', A19, I19⟩ | ⟨rfl, N19q, rs19, K19, P19, C19, f19', d19', A19, I19⟩
  · have N19 := Fr.app N14 N19q
    have e19 : T19.heap = T19.heap := rfl
    have Zk19 : n0 ≤ T19.heap.size := Nat.le_trans Z12 K19.1
    have Kk19 : Keep h0 T19.heap [] := K12.trans K19 (allS (Or.inr sz_b1) (allS (Or.inr sz_b2') all0))
    have f20 := (V12.keep K19 (ninS (Ne.symm ne_b1_b3) (ninS (Ne.symm ne_b2'_b3) nin0)))
    obtain ⟨_, T21, Lc21, X21, hQ21, st21⟩ := own_callS (W := 0) (y := mN5) X19 hx hZ hown (hw _ (own_w 30 rfl)) (hw _ (own_w 31 rfl)) (hw _ (own_w 16 rfl)) (hw _ (own_w 32 rfl)) (by decide) (rmRef0 l Z av0 hw [] b3 k3 own_n kq13 kq14 T19.heap n0 Zk19 f20 (Nat.lt_of_lt_of_le lq13 hnn) (Nat.lt_of_lt_of_le lq14 hnn) ge_b3 ((RL2 _ lq13 _ lq14).mp rs19)) (by decide) (by decide) (g := (mkF m 79 #[iv p0, iv p1, iv p2, iv p3, iv p4, iv (own_n nn), rv b1, rv b3, iv (own_n nn), iv 1, iv (own_n kq13), iv (own_n kq14), iv 0, .unset, .unset, .unset, .unset, .unset, .unset, .unset, .unset, .unset, .unset, .unset, .unset, .unset] [(.int (own_n kq14)), (.int (own_n kq13)), (.ref b3)])) rfl (by rw [hml]; rfl) (argsL := [(.ref b3), (.int (own_n kq13)), (.int (own_n kq14))]) (rest := []) (lenOf pd__III_Z rfl) rfl (hb hby at_79) rfl e19 (by decide : 3 + 0 ≤ _) (by decide : 10 + 0 ≤ _)
    obtain ⟨rfl, N21q, hh21⟩ := hQ21
    have N21 := Fr.app N19 N21q
    have e21 : T21.heap = T19.heap := hh21
    have f23 := (f15.keep K19)
    obtain ⟨_, T22, Lc22, X22, hQ22, st22⟩ := own_virtual (W := 0) (y := mN0) (z := mN0) X21 hx hZ hown (hw _ (own_w 33 rfl)) (hw _ (own_w 34 rfl)) (notFace_of_selects (args := #[]) (mvT hZ (hw _ (own_w 36 rfl)))) (hw _ (own_w 36 rfl)) (hw _ (own_w 35 rfl)) (hw _ (own_w 37 rfl)) (hw _ (own_w 2 rfl)) (by decide) (rmCount l Z av0 hw [] b1 (own_n nn) T19.heap n0 Zk19 C19) (by decide) (by decide) f23 (g := (mkF m 109 #[iv p0, iv p1, iv p2, iv p3, iv p4, iv (own_n nn), rv b1, rv b3, iv (own_n nn), iv 1, iv (own_n kq13), iv (own_n kq14), iv 0, iv 0, .unset, .unset, .unset, .unset, .unset, .unset, .unset, .unset, .unset, .unset, .unset, .unset] [(.ref b1)])) rfl (by rw [hml]; rfl) (argsL := []) (rest := []) (lenOf pd__I rfl) rfl (hb hby at_109) rfl e21 (by decide : 3 + 0 ≤ _) (by decide : 10 + 0 ≤ _)
    obtain ⟨rfl, N22q, hh22⟩ := hQ22
    have N22 := Fr.app N21 N22q
    have e22 : T22.heap = T19.heap := hh22
    obtain ⟨_, T24, Lc24, X24, hQ24, st24⟩ := own_callS (W := 0) (y := mN1) X22 hx hZ hown (hw _ (own_w 14 rfl)) (hw _ (own_w 15 rfl)) (hw _ (own_w 16 rfl)) (hw _ (own_w 17 rfl)) (by decide) (rmFirst l Z av0 hw [] p2 nn T19.heap n0 Zk19 hone hnn) (by decide) (by decide) (g := (mkF m 127 #[iv p0, iv p1, iv p2, iv p3, iv p4, iv (own_n nn), rv b1, rv b3, iv (own_n nn), iv 1, iv (own_n kq13), iv (own_n kq14), iv 0, iv 0, .unset, .unset, .unset, .unset, .unset, .unset, .unset, .unset, .unset, .unset, .unset, .unset] [(.int (own_n nn)), (.int p2)])) rfl (by rw [hml]; rfl) (argsL := [(.int p2), (.int (own_n nn))]) (rest := []) (lenOf pd__II_I rfl) rfl (hb hby at_127) rfl e22 (by decide : 3 + 0 ≤ _) (by decide : 10 + 0 ≤ _)
    obtain ⟨kq24, lq24, rfl, N24q, hh24⟩ := hQ24
    have N24 := Fr.app N22 N24q
    have e24 : T24.heap = T19.heap := hh24
    obtain ⟨_, T25, Lc25, X25, hQ25, st25⟩ := own_callS (W := 0) (y := mN2) X24 hx hZ hown (hw _ (own_w 18 rfl)) (hw _ (own_w 19 rfl)) (hw _ (own_w 16 rfl)) (hw _ (own_w 20 rfl)) (by decide) (rmSecond l Z av0 hw [] p2 nn T19.heap n0 Zk19 hone hnn) (by decide) (by decide) (g := (mkF m 135 #[iv p0, iv p1, iv p2, iv p3, iv p4, iv (own_n nn), rv b1, rv b3, iv (own_n nn), iv 1, iv (own_n kq13), iv (own_n kq14), iv 0, iv 0, iv (own_n kq24), .unset, .unset, .unset, .unset, .unset, .unset, .unset, .unset, .unset, .unset, .unset] [(.int (own_n nn)), (.int p2)])) rfl (by rw [hml]; rfl) (argsL := [(.int p2), (.int (own_n nn))]) (rest := []) (lenOf pd__II_I rfl) rfl (hb hby at_135) rfl e24 (by decide : 3 + 0 ≤ _) (by decide : 10 + 0 ≤ _)
    obtain ⟨kq25, lq25, rfl, N25q, hh25⟩ := hQ25
    have N25 := Fr.app N24 N25q
    have e25 : T25.heap = T19.heap := hh25
    obtain ⟨_, T26, Lc26, X26, hQ26, st26⟩ := own_virtual (W := 0) (y := mN4) (z := mN4) X25 hx hZ hown (hw _ (own_w 21 rfl)) (hw _ (own_w 22 rfl)) (notFace_of_selects (args := #[]) (mvT hZ (hw _ (own_w 24 rfl)))) (hw _ (own_w 24 rfl)) (hw _ (own_w 23 rfl)) (hw _ (own_w 25 rfl)) (hw _ (own_w 2 rfl)) (by decide) (rmJoin l Z av0 hw [] b1 b2' k2' nn f19' (fun i => i) (fun _ => 0) kq24 kq25 (own_n nn) T19.heap n0 Zk19 hnn f23 P19 C19 A19 I19 lq24 lq25 ge_b1 ge_b2' ne_b1_b2') (by decide) (by decide) f23 (g := (mkF m 146 #[iv p0, iv p1, iv p2, iv p3, iv p4, iv (own_n nn), rv b1, rv b3, iv (own_n nn), iv 1, iv (own_n kq13), iv (own_n kq14), iv 0, iv 0, iv (own_n kq24), iv (own_n kq25), .unset, .unset, .unset, .unset, .unset, .unset, .unset, .unset, .unset, .unset] [(.int (own_n kq25)), (.int (own_n kq24)), (.ref b1)])) rfl (by rw [hml]; rfl) (argsL := [(.int (own_n kq24)), (.int (own_n kq25))]) (rest := []) (lenOf pd__II_Z rfl) rfl (hb hby at_146) rfl e25 (by decide : 3 + 0 ≤ _) (by decide : 10 + 0 ≤ _)
    rcases hQ26 with ⟨rfl, N26q, rs26, K26, P26, C26, f26', A26, I26⟩ | ⟨rfl, N26q, rs26, K26, P26, C26, f26', d26', A26, I26⟩
    · have N26 := Fr.app N25 N26q
      have e26 : T26.heap = T26.heap := rfl
      have Zk26 : n0 ≤ T26.heap.size := Nat.le_trans Zk19 K26.1
      have Kk26 : Keep h0 T26.heap [] := Kk19.trans K26 (allS (Or.inr sz_b1) (allS (Or.inr sz_b2') all0))
      have f27 := (f20.keep K26 (ninS (Ne.symm ne_b1_b3) (ninS (Ne.symm ne_b2'_b3) nin0)))
      obtain ⟨_, T28, Lc28, X28, hQ28, st28⟩ := own_callS (W := 0) (y := mN5) X26 hx hZ hown (hw _ (own_w 30 rfl)) (hw _ (own_w 31 rfl)) (hw _ (own_w 16 rfl)) (hw _ (own_w 32 rfl)) (by decide) (rmRef0 l Z av0 hw [] b3 k3 own_n kq24 kq25 T26.heap n0 Zk26 f27 (Nat.lt_of_lt_of_le lq24 hnn) (Nat.lt_of_lt_of_le lq25 hnn) ge_b3 ((RL2 _ lq24 _ lq25).mp rs26)) (by decide) (by decide) (g := (mkF m 157 #[iv p0, iv p1, iv p2, iv p3, iv p4, iv (own_n nn), rv b1, rv b3, iv (own_n nn), iv 1, iv (own_n kq13), iv (own_n kq14), iv 0, iv 0, iv (own_n kq24), iv (own_n kq25), iv 0, .unset, .unset, .unset, .unset, .unset, .unset, .unset, .unset, .unset] [(.int (own_n kq25)), (.int (own_n kq24)), (.ref b3)])) rfl (by rw [hml]; rfl) (argsL := [(.ref b3), (.int (own_n kq24)), (.int (own_n kq25))]) (rest := []) (lenOf pd__III_Z rfl) rfl (hb hby at_157) rfl e26 (by decide : 3 + 0 ≤ _) (by decide : 10 + 0 ≤ _)
      obtain ⟨rfl, N28q, hh28⟩ := hQ28
      have N28 := Fr.app N26 N28q
      have e28 : T28.heap = T26.heap := hh28
      have f30 := (f23.keep K26)
      obtain ⟨_, T29, Lc29, X29, hQ29, st29⟩ := own_virtual (W := 0) (y := mN0) (z := mN0) X28 hx hZ hown (hw _ (own_w 33 rfl)) (hw _ (own_w 34 rfl)) (notFace_of_selects (args := #[]) (mvT hZ (hw _ (own_w 36 rfl)))) (hw _ (own_w 36 rfl)) (hw _ (own_w 35 rfl)) (hw _ (own_w 37 rfl)) (hw _ (own_w 2 rfl)) (by decide) (rmCount l Z av0 hw [] b1 (own_n nn) T26.heap n0 Zk26 C26) (by decide) (by decide) f30 (g := (mkF m 187 #[iv p0, iv p1, iv p2, iv p3, iv p4, iv (own_n nn), rv b1, rv b3, iv (own_n nn), iv 1, iv (own_n kq13), iv (own_n kq14), iv 0, iv 0, iv (own_n kq24), iv (own_n kq25), iv 0, iv 0, .unset, .unset, .unset, .unset, .unset, .unset, .unset, .unset] [(.ref b1)])) rfl (by rw [hml]; rfl) (argsL := []) (rest := []) (lenOf pd__I rfl) rfl (hb hby at_187) rfl e28 (by decide : 3 + 0 ≤ _) (by decide : 10 + 0 ≤ _)
      obtain ⟨rfl, N29q, hh29⟩ := hQ29
      have N29 := Fr.app N28 N29q
      have e29 : T29.heap = T26.heap := hh29
      obtain ⟨_, T31, Lc31, X31, hQ31, st31⟩ := own_callS (W := 0) (y := mN1) X29 hx hZ hown (hw _ (own_w 14 rfl)) (hw _ (own_w 15 rfl)) (hw _ (own_w 16 rfl)) (hw _ (own_w 17 rfl)) (by decide) (rmFirst l Z av0 hw [] p3 nn T26.heap n0 Zk26 hone hnn) (by decide) (by decide) (g := (mkF m 205 #[iv p0, iv p1, iv p2, iv p3, iv p4, iv (own_n nn), rv b1, rv b3, iv (own_n nn), iv 1, iv (own_n kq13), iv (own_n kq14), iv 0, iv 0, iv (own_n kq24), iv (own_n kq25), iv 0, iv 0, .unset, .unset, .unset, .unset, .unset, .unset, .unset, .unset] [(.int (own_n nn)), (.int p3)])) rfl (by rw [hml]; rfl) (argsL := [(.int p3), (.int (own_n nn))]) (rest := []) (lenOf pd__II_I rfl) rfl (hb hby at_205) rfl e29 (by decide : 3 + 0 ≤ _) (by decide : 10 + 0 ≤ _)
      obtain ⟨kq31, lq31, rfl, N31q, hh31⟩ := hQ31
      have N31 := Fr.app N29 N31q
      have e31 : T31.heap = T26.heap := hh31
      obtain ⟨_, T32, Lc32, X32, hQ32, st32⟩ := own_callS (W := 0) (y := mN2) X31 hx hZ hown (hw _ (own_w 18 rfl)) (hw _ (own_w 19 rfl)) (hw _ (own_w 16 rfl)) (hw _ (own_w 20 rfl)) (by decide) (rmSecond l Z av0 hw [] p3 nn T26.heap n0 Zk26 hone hnn) (by decide) (by decide) (g := (mkF m 213 #[iv p0, iv p1, iv p2, iv p3, iv p4, iv (own_n nn), rv b1, rv b3, iv (own_n nn), iv 1, iv (own_n kq13), iv (own_n kq14), iv 0, iv 0, iv (own_n kq24), iv (own_n kq25), iv 0, iv 0, iv (own_n kq31), .unset, .unset, .unset, .unset, .unset, .unset, .unset] [(.int (own_n nn)), (.int p3)])) rfl (by rw [hml]; rfl) (argsL := [(.int p3), (.int (own_n nn))]) (rest := []) (lenOf pd__II_I rfl) rfl (hb hby at_213) rfl e31 (by decide : 3 + 0 ≤ _) (by decide : 10 + 0 ≤ _)
      obtain ⟨kq32, lq32, rfl, N32q, hh32⟩ := hQ32
      have N32 := Fr.app N31 N32q
      have e32 : T32.heap = T26.heap := hh32
      obtain ⟨_, T33, Lc33, X33, hQ33, st33⟩ := own_virtual (W := 0) (y := mN4) (z := mN4) X32 hx hZ hown (hw _ (own_w 21 rfl)) (hw _ (own_w 22 rfl)) (notFace_of_selects (args := #[]) (mvT hZ (hw _ (own_w 24 rfl)))) (hw _ (own_w 24 rfl)) (hw _ (own_w 23 rfl)) (hw _ (own_w 25 rfl)) (hw _ (own_w 2 rfl)) (by decide) (rmJoin l Z av0 hw [] b1 b2' k2' nn f26' (fun i => i) (fun _ => 0) kq31 kq32 (own_n nn) T26.heap n0 Zk26 hnn f30 P26 C26 A26 I26 lq31 lq32 ge_b1 ge_b2' ne_b1_b2') (by decide) (by decide) f30 (g := (mkF m 224 #[iv p0, iv p1, iv p2, iv p3, iv p4, iv (own_n nn), rv b1, rv b3, iv (own_n nn), iv 1, iv (own_n kq13), iv (own_n kq14), iv 0, iv 0, iv (own_n kq24), iv (own_n kq25), iv 0, iv 0, iv (own_n kq31), iv (own_n kq32), .unset, .unset, .unset, .unset, .unset, .unset] [(.int (own_n kq32)), (.int (own_n kq31)), (.ref b1)])) rfl (by rw [hml]; rfl) (argsL := [(.int (own_n kq31)), (.int (own_n kq32))]) (rest := []) (lenOf pd__II_Z rfl) rfl (hb hby at_224) rfl e32 (by decide : 3 + 0 ≤ _) (by decide : 10 + 0 ≤ _)
      rcases hQ33 with ⟨rfl, N33q, rs33, K33, P33, C33, f33', A33, I33⟩ | ⟨rfl, N33q, rs33, K33, P33, C33, f33', d33', A33, I33⟩
      · have N33 := Fr.app N32 N33q
        have e33 : T33.heap = T33.heap := rfl
        have Zk33 : n0 ≤ T33.heap.size := Nat.le_trans Zk26 K33.1
        have Kk33 : Keep h0 T33.heap [] := Kk26.trans K33 (allS (Or.inr sz_b1) (allS (Or.inr sz_b2') all0))
        have f34 := (f27.keep K33 (ninS (Ne.symm ne_b1_b3) (ninS (Ne.symm ne_b2'_b3) nin0)))
        obtain ⟨_, T35, Lc35, X35, hQ35, st35⟩ := own_callS (W := 0) (y := mN5) X33 hx hZ hown (hw _ (own_w 30 rfl)) (hw _ (own_w 31 rfl)) (hw _ (own_w 16 rfl)) (hw _ (own_w 32 rfl)) (by decide) (rmRef0 l Z av0 hw [] b3 k3 own_n kq31 kq32 T33.heap n0 Zk33 f34 (Nat.lt_of_lt_of_le lq31 hnn) (Nat.lt_of_lt_of_le lq32 hnn) ge_b3 ((RL2 _ lq31 _ lq32).mp rs33)) (by decide) (by decide) (g := (mkF m 235 #[iv p0, iv p1, iv p2, iv p3, iv p4, iv (own_n nn), rv b1, rv b3, iv (own_n nn), iv 1, iv (own_n kq13), iv (own_n kq14), iv 0, iv 0, iv (own_n kq24), iv (own_n kq25), iv 0, iv 0, iv (own_n kq31), iv (own_n kq32), iv 0, .unset, .unset, .unset, .unset, .unset] [(.int (own_n kq32)), (.int (own_n kq31)), (.ref b3)])) rfl (by rw [hml]; rfl) (argsL := [(.ref b3), (.int (own_n kq31)), (.int (own_n kq32))]) (rest := []) (lenOf pd__III_Z rfl) rfl (hb hby at_235) rfl e33 (by decide : 3 + 0 ≤ _) (by decide : 10 + 0 ≤ _)
        obtain ⟨rfl, N35q, hh35⟩ := hQ35
        have N35 := Fr.app N33 N35q
        have e35 : T35.heap = T33.heap := hh35
        have f37 := (f30.keep K33)
        obtain ⟨_, T36, Lc36, X36, hQ36, st36⟩ := own_virtual (W := 0) (y := mN0) (z := mN0) X35 hx hZ hown (hw _ (own_w 33 rfl)) (hw _ (own_w 34 rfl)) (notFace_of_selects (args := #[]) (mvT hZ (hw _ (own_w 36 rfl)))) (hw _ (own_w 36 rfl)) (hw _ (own_w 35 rfl)) (hw _ (own_w 37 rfl)) (hw _ (own_w 2 rfl)) (by decide) (rmCount l Z av0 hw [] b1 (own_n nn) T33.heap n0 Zk33 C33) (by decide) (by decide) f37 (g := (mkF m 265 #[iv p0, iv p1, iv p2, iv p3, iv p4, iv (own_n nn), rv b1, rv b3, iv (own_n nn), iv 1, iv (own_n kq13), iv (own_n kq14), iv 0, iv 0, iv (own_n kq24), iv (own_n kq25), iv 0, iv 0, iv (own_n kq31), iv (own_n kq32), iv 0, iv 0, .unset, .unset, .unset, .unset] [(.ref b1)])) rfl (by rw [hml]; rfl) (argsL := []) (rest := []) (lenOf pd__I rfl) rfl (hb hby at_265) rfl e35 (by decide : 3 + 0 ≤ _) (by decide : 10 + 0 ≤ _)
        obtain ⟨rfl, N36q, hh36⟩ := hQ36
        have N36 := Fr.app N35 N36q
        have e36 : T36.heap = T33.heap := hh36
        obtain ⟨_, T38, Lc38, X38, hQ38, st38⟩ := own_callS (W := 0) (y := mN1) X36 hx hZ hown (hw _ (own_w 14 rfl)) (hw _ (own_w 15 rfl)) (hw _ (own_w 16 rfl)) (hw _ (own_w 17 rfl)) (by decide) (rmFirst l Z av0 hw [] p4 nn T33.heap n0 Zk33 hone hnn) (by decide) (by decide) (g := (mkF m 284 #[iv p0, iv p1, iv p2, iv p3, iv p4, iv (own_n nn), rv b1, rv b3, iv (own_n nn), iv 1, iv (own_n kq13), iv (own_n kq14), iv 0, iv 0, iv (own_n kq24), iv (own_n kq25), iv 0, iv 0, iv (own_n kq31), iv (own_n kq32), iv 0, iv 0, .unset, .unset, .unset, .unset] [(.int (own_n nn)), (.int p4)])) rfl (by rw [hml]; rfl) (argsL := [(.int p4), (.int (own_n nn))]) (rest := []) (lenOf pd__II_I rfl) rfl (hb hby at_284) rfl e36 (by decide : 3 + 0 ≤ _) (by decide : 10 + 0 ≤ _)
        obtain ⟨kq38, lq38, rfl, N38q, hh38⟩ := hQ38
        have N38 := Fr.app N36 N38q
        have e38 : T38.heap = T33.heap := hh38
        obtain ⟨_, T39, Lc39, X39, hQ39, st39⟩ := own_callS (W := 0) (y := mN2) X38 hx hZ hown (hw _ (own_w 18 rfl)) (hw _ (own_w 19 rfl)) (hw _ (own_w 16 rfl)) (hw _ (own_w 20 rfl)) (by decide) (rmSecond l Z av0 hw [] p4 nn T33.heap n0 Zk33 hone hnn) (by decide) (by decide) (g := (mkF m 293 #[iv p0, iv p1, iv p2, iv p3, iv p4, iv (own_n nn), rv b1, rv b3, iv (own_n nn), iv 1, iv (own_n kq13), iv (own_n kq14), iv 0, iv 0, iv (own_n kq24), iv (own_n kq25), iv 0, iv 0, iv (own_n kq31), iv (own_n kq32), iv 0, iv 0, iv (own_n kq38), .unset, .unset, .unset] [(.int (own_n nn)), (.int p4)])) rfl (by rw [hml]; rfl) (argsL := [(.int p4), (.int (own_n nn))]) (rest := []) (lenOf pd__II_I rfl) rfl (hb hby at_293) rfl e38 (by decide : 3 + 0 ≤ _) (by decide : 10 + 0 ≤ _)
        obtain ⟨kq39, lq39, rfl, N39q, hh39⟩ := hQ39
        have N39 := Fr.app N38 N39q
        have e39 : T39.heap = T33.heap := hh39
        obtain ⟨_, T40, Lc40, X40, hQ40, st40⟩ := own_virtual (W := 0) (y := mN4) (z := mN4) X39 hx hZ hown (hw _ (own_w 21 rfl)) (hw _ (own_w 22 rfl)) (notFace_of_selects (args := #[]) (mvT hZ (hw _ (own_w 24 rfl)))) (hw _ (own_w 24 rfl)) (hw _ (own_w 23 rfl)) (hw _ (own_w 25 rfl)) (hw _ (own_w 2 rfl)) (by decide) (rmJoin l Z av0 hw [] b1 b2' k2' nn f33' (fun i => i) (fun _ => 0) kq38 kq39 (own_n nn) T33.heap n0 Zk33 hnn f37 P33 C33 A33 I33 lq38 lq39 ge_b1 ge_b2' ne_b1_b2') (by decide) (by decide) f37 (g := (mkF m 304 #[iv p0, iv p1, iv p2, iv p3, iv p4, iv (own_n nn), rv b1, rv b3, iv (own_n nn), iv 1, iv (own_n kq13), iv (own_n kq14), iv 0, iv 0, iv (own_n kq24), iv (own_n kq25), iv 0, iv 0, iv (own_n kq31), iv (own_n kq32), iv 0, iv 0, iv (own_n kq38), iv (own_n kq39), .unset, .unset] [(.int (own_n kq39)), (.int (own_n kq38)), (.ref b1)])) rfl (by rw [hml]; rfl) (argsL := [(.int (own_n kq38)), (.int (own_n kq39))]) (rest := []) (lenOf pd__II_Z rfl) rfl (hb hby at_304) rfl e39 (by decide : 3 + 0 ≤ _) (by decide : 10 + 0 ≤ _)
        rcases hQ40 with ⟨rfl, N40q, rs40, K40, P40, C40, f40', A40, I40⟩ | ⟨rfl, N40q, rs40, K40, P40, C40, f40', d40', A40, I40⟩
        · have N40 := Fr.app N39 N40q
          have e40 : T40.heap = T40.heap := rfl
          have Zk40 : n0 ≤ T40.heap.size := Nat.le_trans Zk33 K40.1
          have Kk40 : Keep h0 T40.heap [] := Kk33.trans K40 (allS (Or.inr sz_b1) (allS (Or.inr sz_b2') all0))
          have f41 := (f34.keep K40 (ninS (Ne.symm ne_b1_b3) (ninS (Ne.symm ne_b2'_b3) nin0)))
          obtain ⟨_, T42, Lc42, X42, hQ42, st42⟩ := own_callS (W := 0) (y := mN5) X40 hx hZ hown (hw _ (own_w 30 rfl)) (hw _ (own_w 31 rfl)) (hw _ (own_w 16 rfl)) (hw _ (own_w 32 rfl)) (by decide) (rmRef0 l Z av0 hw [] b3 k3 own_n kq38 kq39 T40.heap n0 Zk40 f41 (Nat.lt_of_lt_of_le lq38 hnn) (Nat.lt_of_lt_of_le lq39 hnn) ge_b3 ((RL2 _ lq38 _ lq39).mp rs40)) (by decide) (by decide) (g := (mkF m 315 #[iv p0, iv p1, iv p2, iv p3, iv p4, iv (own_n nn), rv b1, rv b3, iv (own_n nn), iv 1, iv (own_n kq13), iv (own_n kq14), iv 0, iv 0, iv (own_n kq24), iv (own_n kq25), iv 0, iv 0, iv (own_n kq31), iv (own_n kq32), iv 0, iv 0, iv (own_n kq38), iv (own_n kq39), iv 0, .unset] [(.int (own_n kq39)), (.int (own_n kq38)), (.ref b3)])) rfl (by rw [hml]; rfl) (argsL := [(.ref b3), (.int (own_n kq38)), (.int (own_n kq39))]) (rest := []) (lenOf pd__III_Z rfl) rfl (hb hby at_315) rfl e40 (by decide : 3 + 0 ≤ _) (by decide : 10 + 0 ≤ _)
          obtain ⟨rfl, N42q, hh42⟩ := hQ42
          have N42 := Fr.app N40 N42q
          have e42 : T42.heap = T40.heap := hh42
          have f44 := (f37.keep K40)
          obtain ⟨_, T43, Lc43, X43, hQ43, st43⟩ := own_virtual (W := 0) (y := mN0) (z := mN0) X42 hx hZ hown (hw _ (own_w 33 rfl)) (hw _ (own_w 34 rfl)) (notFace_of_selects (args := #[]) (mvT hZ (hw _ (own_w 36 rfl)))) (hw _ (own_w 36 rfl)) (hw _ (own_w 35 rfl)) (hw _ (own_w 37 rfl)) (hw _ (own_w 2 rfl)) (by decide) (rmCount l Z av0 hw [] b1 (own_n nn) T40.heap n0 Zk40 C40) (by decide) (by decide) f44 (g := (mkF m 345 #[iv p0, iv p1, iv p2, iv p3, iv p4, iv (own_n nn), rv b1, rv b3, iv (own_n nn), iv 1, iv (own_n kq13), iv (own_n kq14), iv 0, iv 0, iv (own_n kq24), iv (own_n kq25), iv 0, iv 0, iv (own_n kq31), iv (own_n kq32), iv 0, iv 0, iv (own_n kq38), iv (own_n kq39), iv 0, iv 0] [(.ref b1)])) rfl (by rw [hml]; rfl) (argsL := []) (rest := []) (lenOf pd__I rfl) rfl (hb hby at_345) rfl e42 (by decide : 3 + 0 ≤ _) (by decide : 10 + 0 ≤ _)
          obtain ⟨rfl, N43q, hh43⟩ := hQ43
          have N43 := Fr.app N42 N43q
          have e43 : T43.heap = T40.heap := hh43
          have S45 : ∀ tz, oS p e below T43 (mkF m 362 #[iv p0, iv p1, iv p2, iv p3, iv p4, iv (own_n nn), rv b1, rv b3, iv (own_n nn), iv 1, iv (own_n kq13), iv (own_n kq14), iv 0, iv 0, iv (own_n kq24), iv (own_n kq25), iv 0, iv 0, iv (own_n kq31), iv (own_n kq32), iv 0, iv 0, iv (own_n kq38), iv (own_n kq39), iv 0, iv 0] [(.int 1)]) tz → oS p e below s₁ (mkF m 0 #[iv p0, iv p1, iv p2, iv p3, iv p4, .unset, .unset, .unset, .unset, .unset, .unset, .unset, .unset, .unset, .unset, .unset, .unset, .unset, .unset, .unset, .unset, .unset, .unset, .unset, .unset, .unset] []) tz := fun tz kz => id (by
            show oS p e below s₁ (mkF m 0 #[iv p0, iv p1, iv p2, iv p3, iv p4, .unset, .unset, .unset, .unset, .unset, .unset, .unset, .unset, .unset, .unset, .unset, .unset, .unset, .unset, .unset, .unset, .unset, .unset, .unset, .unset, .unset] []) _
            refine XT.iconstV X0.here hx rfl (1 : Int32) (hb hby at_0) (by decide) ?_
            refine XS.iloadN X0.here hx rfl (hb hby at_1) rfl ?_
            refine XT.iconstV X0.here hx rfl (3 : Int32) (hb hby at_2) (by decide) ?_
            refine XS.iand X0.here hx rfl (hb hby at_3) rfl ?_
            refine XS.iadd X0.here hx rfl (hb hby at_4) rfl ?_
            show oS p e below s₁ (mkF m 5 #[iv p0, iv p1, iv p2, iv p3, iv p4, .unset, .unset, .unset, .unset, .unset, .unset, .unset, .unset, .unset, .unset, .unset, .unset, .unset, .unset, .unset, .unset, .unset, .unset, .unset, .unset, .unset] [(.int ((1 : Int32) + (p0 &&& (3 : Int32))))]) _
            rw [hn]
            show oS p e below s₁ (mkF m 5 #[iv p0, iv p1, iv p2, iv p3, iv p4, .unset, .unset, .unset, .unset, .unset, .unset, .unset, .unset, .unset, .unset, .unset, .unset, .unset, .unset, .unset, .unset, .unset, .unset, .unset, .unset, .unset] [(.int (own_n nn))]) _
            refine XS.istore X0.here hx rfl (hb hby at_5) rfl (l' := #[iv p0, iv p1, iv p2, iv p3, iv p4, iv (own_n nn), .unset, .unset, .unset, .unset, .unset, .unset, .unset, .unset, .unset, .unset, .unset, .unset, .unset, .unset, .unset, .unset, .unset, .unset, .unset, .unset]) rfl ?_
            refine st1 _ ?_
            show oS p e below T1 (mkF m 10 #[iv p0, iv p1, iv p2, iv p3, iv p4, iv (own_n nn), .unset, .unset, .unset, .unset, .unset, .unset, .unset, .unset, .unset, .unset, .unset, .unset, .unset, .unset, .unset, .unset, .unset, .unset, .unset, .unset] [(.ref b1)]) _
            refine XS.dup X1.here hx rfl (hb hby at_10) rfl rfl ?_
            refine XS.iload X1.here hx rfl (hb hby at_11) rfl ?_
            refine st2 _ ?_
            refine XS.astore X2.here hx rfl (hb hby at_16) rfl rfl (l' := #[iv p0, iv p1, iv p2, iv p3, iv p4, iv (own_n nn), rv b1, .unset, .unset, .unset, .unset, .unset, .unset, .unset, .unset, .unset, .unset, .unset, .unset, .unset, .unset, .unset, .unset, .unset, .unset, .unset]) rfl ?_
            refine XT.iconstV X2.here hx rfl (4 : Int32) (hb hby at_18) (by decide) ?_
            refine st3 _ ?_
            refine XS.dup X3.here hx rfl (hb hby at_21) rfl rfl ?_
            refine XT.iconstV X3.here hx rfl (0 : Int32) (hb hby at_22) (by decide) ?_
            show oS p e below T3 (mkF m 23 #[iv p0, iv p1, iv p2, iv p3, iv p4, iv (own_n nn), rv b1, .unset, .unset, .unset, .unset, .unset, .unset, .unset, .unset, .unset, .unset, .unset, .unset, .unset, .unset, .unset, .unset, .unset, .unset, .unset] [(.int 0), (.ref b3), (.ref b3)]) _
            refine XT.iconstV X3.here hx rfl (0 : Int32) (hb hby at_23) (by decide) ?_
            refine st6 _ ?_
            refine XS.dup X6.here hx rfl (hb hby at_25) rfl rfl ?_
            refine XT.iconstV X6.here hx rfl (1 : Int32) (hb hby at_26) (by decide) ?_
            refine XT.iconstV X6.here hx rfl (1 : Int32) (hb hby at_27) (by decide) ?_
            refine st8 _ ?_
            refine XS.dup X8.here hx rfl (hb hby at_29) rfl rfl ?_
            refine XT.iconstV X8.here hx rfl (2 : Int32) (hb hby at_30) (by decide) ?_
            show oS p e below T8 (mkF m 31 #[iv p0, iv p1, iv p2, iv p3, iv p4, iv (own_n nn), rv b1, .unset, .unset, .unset, .unset, .unset, .unset, .unset, .unset, .unset, .unset, .unset, .unset, .unset, .unset, .unset, .unset, .unset, .unset, .unset] [(.int 2), (.ref b3), (.ref b3)]) _
            refine XT.iconstV X8.here hx rfl (2 : Int32) (hb hby at_31) (by decide) ?_
            refine st10 _ ?_
            refine XS.dup X10.here hx rfl (hb hby at_33) rfl rfl ?_
            refine XT.iconstV X10.here hx rfl (3 : Int32) (hb hby at_34) (by decide) ?_
            refine XT.iconstV X10.here hx rfl (3 : Int32) (hb hby at_35) (by decide) ?_
            refine st12 _ ?_
            refine XS.astore X12.here hx rfl (hb hby at_37) rfl rfl (l' := #[iv p0, iv p1, iv p2, iv p3, iv p4, iv (own_n nn), rv b1, rv b3, .unset, .unset, .unset, .unset, .unset, .unset, .unset, .unset, .unset, .unset, .unset, .unset, .unset, .unset, .unset, .unset, .unset, .unset]) rfl ?_
            refine XS.iload X12.here hx rfl (hb hby at_39) rfl ?_
            show oS p e below T12 (mkF m 41 #[iv p0, iv p1, iv p2, iv p3, iv p4, iv (own_n nn), rv b1, rv b3, .unset, .unset, .unset, .unset, .unset, .unset, .unset, .unset, .unset, .unset, .unset, .unset, .unset, .unset, .unset, .unset, .unset, .unset] [(.int (own_n nn))]) _
            refine XS.istore X12.here hx rfl (hb hby at_41) rfl (l' := #[iv p0, iv p1, iv p2, iv p3, iv p4, iv (own_n nn), rv b1, rv b3, iv (own_n nn), .unset, .unset, .unset, .unset, .unset, .unset, .unset, .unset, .unset, .unset, .unset, .unset, .unset, .unset, .unset, .unset, .unset]) rfl ?_
            refine XT.iconstV X12.here hx rfl (1 : Int32) (hb hby at_43) (by decide) ?_
            refine XS.istore X12.here hx rfl (hb hby at_44) rfl (l' := #[iv p0, iv p1, iv p2, iv p3, iv p4, iv (own_n nn), rv b1, rv b3, iv (own_n nn), iv 1, .unset, .unset, .unset, .unset, .unset, .unset, .unset, .unset, .unset, .unset, .unset, .unset, .unset, .unset, .unset, .unset]) rfl ?_
            refine XS.iloadN X12.here hx rfl (hb hby at_46) rfl ?_
            refine XS.iload X12.here hx rfl (hb hby at_47) rfl ?_
            refine st13 _ ?_
            refine XS.istore X13.here hx rfl (hb hby at_52) rfl (l' := #[iv p0, iv p1, iv p2, iv p3, iv p4, iv (own_n nn), rv b1, rv b3, iv (own_n nn), iv 1, iv (own_n kq13), .unset, .unset, .unset, .unset, .unset, .unset, .unset, .unset, .unset, .unset, .unset, .unset, .unset, .unset, .unset]) rfl ?_
            refine XS.iloadN X13.here hx rfl (hb hby at_54) rfl ?_
            show oS p e below T13 (mkF m 55 #[iv p0, iv p1, iv p2, iv p3, iv p4, iv (own_n nn), rv b1, rv b3, iv (own_n nn), iv 1, iv (own_n kq13), .unset, .unset, .unset, .unset, .unset, .unset, .unset, .unset, .unset, .unset, .unset, .unset, .unset, .unset, .unset] [(.int p1)]) _
            refine XS.iload X13.here hx rfl (hb hby at_55) rfl ?_
            refine st14 _ ?_
            refine XS.istore X14.here hx rfl (hb hby at_60) rfl (l' := #[iv p0, iv p1, iv p2, iv p3, iv p4, iv (own_n nn), rv b1, rv b3, iv (own_n nn), iv 1, iv (own_n kq13), iv (own_n kq14), .unset, .unset, .unset, .unset, .unset, .unset, .unset, .unset, .unset, .unset, .unset, .unset, .unset, .unset]) rfl ?_
            refine XS.aload X14.here hx rfl (hb hby at_62) rfl rfl ?_
            refine XS.iload X14.here hx rfl (hb hby at_64) rfl ?_
            refine XS.iload X14.here hx rfl (hb hby at_66) rfl ?_
            refine st19 _ ?_
            refine XS.istore X19.here hx rfl (hb hby at_71) rfl (l' := #[iv p0, iv p1, iv p2, iv p3, iv p4, iv (own_n nn), rv b1, rv b3, iv (own_n nn), iv 1, iv (own_n kq13), iv (own_n kq14), iv 0, .unset, .unset, .unset, .unset, .unset, .unset, .unset, .unset, .unset, .unset, .unset, .unset, .unset]) rfl ?_
            show oS p e below T19 (mkF m 73 #[iv p0, iv p1, iv p2, iv p3, iv p4, iv (own_n nn), rv b1, rv b3, iv (own_n nn), iv 1, iv (own_n kq13), iv (own_n kq14), iv 0, .unset, .unset, .unset, .unset, .unset, .unset, .unset, .unset, .unset, .unset, .unset, .unset, .unset] []) _
            refine XS.aload X19.here hx rfl (hb hby at_73) rfl rfl ?_
            refine XS.iload X19.here hx rfl (hb hby at_75) rfl ?_
            refine XS.iload X19.here hx rfl (hb hby at_77) rfl ?_
            refine st21 _ ?_
            refine XS.istore X21.here hx rfl (hb hby at_82) rfl (l' := #[iv p0, iv p1, iv p2, iv p3, iv p4, iv (own_n nn), rv b1, rv b3, iv (own_n nn), iv 1, iv (own_n kq13), iv (own_n kq14), iv 0, iv 0, .unset, .unset, .unset, .unset, .unset, .unset, .unset, .unset, .unset, .unset, .unset, .unset]) rfl ?_
            refine XS.iload X21.here hx rfl (hb hby at_84) rfl ?_
            refine XS.ifYes X21.here hx rfl (pc0 := 86) (pc' := 95) rfl (hb hby at_86) rfl (XT.i0_eq_t (by decide)) (by decide) (by decide) ?_
            refine XS.iload X21.here hx rfl (hb hby at_95) rfl ?_
            show oS p e below T21 (mkF m 97 #[iv p0, iv p1, iv p2, iv p3, iv p4, iv (own_n nn), rv b1, rv b3, iv (own_n nn), iv 1, iv (own_n kq13), iv (own_n kq14), iv 0, iv 0, .unset, .unset, .unset, .unset, .unset, .unset, .unset, .unset, .unset, .unset, .unset, .unset] [(.int 1)]) _
            refine XS.ifNo X21.here hx rfl (hb hby at_97) rfl (XT.i0_eq_f (by decide)) ?_
            refine XS.iload X21.here hx rfl (hb hby at_100) rfl ?_
            refine XS.iload X21.here hx rfl (hb hby at_102) rfl ?_
            refine XS.icmpNo X21.here hx rfl (hb hby at_104) rfl (XT.ii_ne_f (by decide)) ?_
            refine XS.aload X21.here hx rfl (hb hby at_107) rfl rfl ?_
            refine st22 _ ?_
            refine XS.iload X22.here hx rfl (hb hby at_112) rfl ?_
            refine XS.icmpNo X22.here hx rfl (hb hby at_114) rfl (XT.ii_ne_f rfl) ?_
            show oS p e below T22 (mkF m 117 #[iv p0, iv p1, iv p2, iv p3, iv p4, iv (own_n nn), rv b1, rv b3, iv (own_n nn), iv 1, iv (own_n kq13), iv (own_n kq14), iv 0, iv 0, .unset, .unset, .unset, .unset, .unset, .unset, .unset, .unset, .unset, .unset, .unset, .unset] []) _
            refine XT.iconstV X22.here hx rfl (1 : Int32) (hb hby at_117) (by decide) ?_
            refine XS.goto X22.here hx rfl (pc0 := 118) (pc' := 122) rfl (hb hby at_118) (by decide) (by decide) ?_
            refine XS.istore X22.here hx rfl (hb hby at_122) rfl (l' := #[iv p0, iv p1, iv p2, iv p3, iv p4, iv (own_n nn), rv b1, rv b3, iv (own_n nn), iv 1, iv (own_n kq13), iv (own_n kq14), iv 0, iv 0, .unset, .unset, .unset, .unset, .unset, .unset, .unset, .unset, .unset, .unset, .unset, .unset]) rfl ?_
            refine XS.iloadN X22.here hx rfl (hb hby at_124) rfl ?_
            refine XS.iload X22.here hx rfl (hb hby at_125) rfl ?_
            refine st24 _ ?_
            refine XS.istore X24.here hx rfl (hb hby at_130) rfl (l' := #[iv p0, iv p1, iv p2, iv p3, iv p4, iv (own_n nn), rv b1, rv b3, iv (own_n nn), iv 1, iv (own_n kq13), iv (own_n kq14), iv 0, iv 0, iv (own_n kq24), .unset, .unset, .unset, .unset, .unset, .unset, .unset, .unset, .unset, .unset, .unset]) rfl ?_
            refine XS.iloadN X24.here hx rfl (hb hby at_132) rfl ?_
            show oS p e below T24 (mkF m 133 #[iv p0, iv p1, iv p2, iv p3, iv p4, iv (own_n nn), rv b1, rv b3, iv (own_n nn), iv 1, iv (own_n kq13), iv (own_n kq14), iv 0, iv 0, iv (own_n kq24), .unset, .unset, .unset, .unset, .unset, .unset, .unset, .unset, .unset, .unset, .unset] [(.int p2)]) _
            refine XS.iload X24.here hx rfl (hb hby at_133) rfl ?_
            refine st25 _ ?_
            refine XS.istore X25.here hx rfl (hb hby at_138) rfl (l' := #[iv p0, iv p1, iv p2, iv p3, iv p4, iv (own_n nn), rv b1, rv b3, iv (own_n nn), iv 1, iv (own_n kq13), iv (own_n kq14), iv 0, iv 0, iv (own_n kq24), iv (own_n kq25), .unset, .unset, .unset, .unset, .unset, .unset, .unset, .unset, .unset, .unset]) rfl ?_
            refine XS.aload X25.here hx rfl (hb hby at_140) rfl rfl ?_
            refine XS.iload X25.here hx rfl (hb hby at_142) rfl ?_
            refine XS.iload X25.here hx rfl (hb hby at_144) rfl ?_
            refine st26 _ ?_
            refine XS.istore X26.here hx rfl (hb hby at_149) rfl (l' := #[iv p0, iv p1, iv p2, iv p3, iv p4, iv (own_n nn), rv b1, rv b3, iv (own_n nn), iv 1, iv (own_n kq13), iv (own_n kq14), iv 0, iv 0, iv (own_n kq24), iv (own_n kq25), iv 0, .unset, .unset, .unset, .unset, .unset, .unset, .unset, .unset, .unset]) rfl ?_
            show oS p e below T26 (mkF m 151 #[iv p0, iv p1, iv p2, iv p3, iv p4, iv (own_n nn), rv b1, rv b3, iv (own_n nn), iv 1, iv (own_n kq13), iv (own_n kq14), iv 0, iv 0, iv (own_n kq24), iv (own_n kq25), iv 0, .unset, .unset, .unset, .unset, .unset, .unset, .unset, .unset, .unset] []) _
            refine XS.aload X26.here hx rfl (hb hby at_151) rfl rfl ?_
            refine XS.iload X26.here hx rfl (hb hby at_153) rfl ?_
            refine XS.iload X26.here hx rfl (hb hby at_155) rfl ?_
            refine st28 _ ?_
            refine XS.istore X28.here hx rfl (hb hby at_160) rfl (l' := #[iv p0, iv p1, iv p2, iv p3, iv p4, iv (own_n nn), rv b1, rv b3, iv (own_n nn), iv 1, iv (own_n kq13), iv (own_n kq14), iv 0, iv 0, iv (own_n kq24), iv (own_n kq25), iv 0, iv 0, .unset, .unset, .unset, .unset, .unset, .unset, .unset, .unset]) rfl ?_
            refine XS.iload X28.here hx rfl (hb hby at_162) rfl ?_
            refine XS.ifYes X28.here hx rfl (pc0 := 164) (pc' := 173) rfl (hb hby at_164) rfl (XT.i0_eq_t (by decide)) (by decide) (by decide) ?_
            refine XS.iload X28.here hx rfl (hb hby at_173) rfl ?_
            show oS p e below T28 (mkF m 175 #[iv p0, iv p1, iv p2, iv p3, iv p4, iv (own_n nn), rv b1, rv b3, iv (own_n nn), iv 1, iv (own_n kq13), iv (own_n kq14), iv 0, iv 0, iv (own_n kq24), iv (own_n kq25), iv 0, iv 0, .unset, .unset, .unset, .unset, .unset, .unset, .unset, .unset] [(.int 1)]) _
            refine XS.ifNo X28.here hx rfl (hb hby at_175) rfl (XT.i0_eq_f (by decide)) ?_
            refine XS.iload X28.here hx rfl (hb hby at_178) rfl ?_
            refine XS.iload X28.here hx rfl (hb hby at_180) rfl ?_
            refine XS.icmpNo X28.here hx rfl (hb hby at_182) rfl (XT.ii_ne_f (by decide)) ?_
            refine XS.aload X28.here hx rfl (hb hby at_185) rfl rfl ?_
            refine st29 _ ?_
            refine XS.iload X29.here hx rfl (hb hby at_190) rfl ?_
            refine XS.icmpNo X29.here hx rfl (hb hby at_192) rfl (XT.ii_ne_f rfl) ?_
            show oS p e below T29 (mkF m 195 #[iv p0, iv p1, iv p2, iv p3, iv p4, iv (own_n nn), rv b1, rv b3, iv (own_n nn), iv 1, iv (own_n kq13), iv (own_n kq14), iv 0, iv 0, iv (own_n kq24), iv (own_n kq25), iv 0, iv 0, .unset, .unset, .unset, .unset, .unset, .unset, .unset, .unset] []) _
            refine XT.iconstV X29.here hx rfl (1 : Int32) (hb hby at_195) (by decide) ?_
            refine XS.goto X29.here hx rfl (pc0 := 196) (pc' := 200) rfl (hb hby at_196) (by decide) (by decide) ?_
            refine XS.istore X29.here hx rfl (hb hby at_200) rfl (l' := #[iv p0, iv p1, iv p2, iv p3, iv p4, iv (own_n nn), rv b1, rv b3, iv (own_n nn), iv 1, iv (own_n kq13), iv (own_n kq14), iv 0, iv 0, iv (own_n kq24), iv (own_n kq25), iv 0, iv 0, .unset, .unset, .unset, .unset, .unset, .unset, .unset, .unset]) rfl ?_
            refine XS.iloadN X29.here hx rfl (hb hby at_202) rfl ?_
            refine XS.iload X29.here hx rfl (hb hby at_203) rfl ?_
            refine st31 _ ?_
            refine XS.istore X31.here hx rfl (hb hby at_208) rfl (l' := #[iv p0, iv p1, iv p2, iv p3, iv p4, iv (own_n nn), rv b1, rv b3, iv (own_n nn), iv 1, iv (own_n kq13), iv (own_n kq14), iv 0, iv 0, iv (own_n kq24), iv (own_n kq25), iv 0, iv 0, iv (own_n kq31), .unset, .unset, .unset, .unset, .unset, .unset, .unset]) rfl ?_
            refine XS.iloadN X31.here hx rfl (hb hby at_210) rfl ?_
            show oS p e below T31 (mkF m 211 #[iv p0, iv p1, iv p2, iv p3, iv p4, iv (own_n nn), rv b1, rv b3, iv (own_n nn), iv 1, iv (own_n kq13), iv (own_n kq14), iv 0, iv 0, iv (own_n kq24), iv (own_n kq25), iv 0, iv 0, iv (own_n kq31), .unset, .unset, .unset, .unset, .unset, .unset, .unset] [(.int p3)]) _
            refine XS.iload X31.here hx rfl (hb hby at_211) rfl ?_
            refine st32 _ ?_
            refine XS.istore X32.here hx rfl (hb hby at_216) rfl (l' := #[iv p0, iv p1, iv p2, iv p3, iv p4, iv (own_n nn), rv b1, rv b3, iv (own_n nn), iv 1, iv (own_n kq13), iv (own_n kq14), iv 0, iv 0, iv (own_n kq24), iv (own_n kq25), iv 0, iv 0, iv (own_n kq31), iv (own_n kq32), .unset, .unset, .unset, .unset, .unset, .unset]) rfl ?_
            refine XS.aload X32.here hx rfl (hb hby at_218) rfl rfl ?_
            refine XS.iload X32.here hx rfl (hb hby at_220) rfl ?_
            refine XS.iload X32.here hx rfl (hb hby at_222) rfl ?_
            refine st33 _ ?_
            refine XS.istore X33.here hx rfl (hb hby at_227) rfl (l' := #[iv p0, iv p1, iv p2, iv p3, iv p4, iv (own_n nn), rv b1, rv b3, iv (own_n nn), iv 1, iv (own_n kq13), iv (own_n kq14), iv 0, iv 0, iv (own_n kq24), iv (own_n kq25), iv 0, iv 0, iv (own_n kq31), iv (own_n kq32), iv 0, .unset, .unset, .unset, .unset, .unset]) rfl ?_
            show oS p e below T33 (mkF m 229 #[iv p0, iv p1, iv p2, iv p3, iv p4, iv (own_n nn), rv b1, rv b3, iv (own_n nn), iv 1, iv (own_n kq13), iv (own_n kq14), iv 0, iv 0, iv (own_n kq24), iv (own_n kq25), iv 0, iv 0, iv (own_n kq31), iv (own_n kq32), iv 0, .unset, .unset, .unset, .unset, .unset] []) _
            refine XS.aload X33.here hx rfl (hb hby at_229) rfl rfl ?_
            refine XS.iload X33.here hx rfl (hb hby at_231) rfl ?_
            refine XS.iload X33.here hx rfl (hb hby at_233) rfl ?_
            refine st35 _ ?_
            refine XS.istore X35.here hx rfl (hb hby at_238) rfl (l' := #[iv p0, iv p1, iv p2, iv p3, iv p4, iv (own_n nn), rv b1, rv b3, iv (own_n nn), iv 1, iv (own_n kq13), iv (own_n kq14), iv 0, iv 0, iv (own_n kq24), iv (own_n kq25), iv 0, iv 0, iv (own_n kq31), iv (own_n kq32), iv 0, iv 0, .unset, .unset, .unset, .unset]) rfl ?_
            refine XS.iload X35.here hx rfl (hb hby at_240) rfl ?_
            refine XS.ifYes X35.here hx rfl (pc0 := 242) (pc' := 251) rfl (hb hby at_242) rfl (XT.i0_eq_t (by decide)) (by decide) (by decide) ?_
            refine XS.iload X35.here hx rfl (hb hby at_251) rfl ?_
            show oS p e below T35 (mkF m 253 #[iv p0, iv p1, iv p2, iv p3, iv p4, iv (own_n nn), rv b1, rv b3, iv (own_n nn), iv 1, iv (own_n kq13), iv (own_n kq14), iv 0, iv 0, iv (own_n kq24), iv (own_n kq25), iv 0, iv 0, iv (own_n kq31), iv (own_n kq32), iv 0, iv 0, .unset, .unset, .unset, .unset] [(.int 1)]) _
            refine XS.ifNo X35.here hx rfl (hb hby at_253) rfl (XT.i0_eq_f (by decide)) ?_
            refine XS.iload X35.here hx rfl (hb hby at_256) rfl ?_
            refine XS.iload X35.here hx rfl (hb hby at_258) rfl ?_
            refine XS.icmpNo X35.here hx rfl (hb hby at_260) rfl (XT.ii_ne_f (by decide)) ?_
            refine XS.aload X35.here hx rfl (hb hby at_263) rfl rfl ?_
            refine st36 _ ?_
            refine XS.iload X36.here hx rfl (hb hby at_268) rfl ?_
            refine XS.icmpNo X36.here hx rfl (hb hby at_270) rfl (XT.ii_ne_f rfl) ?_
            show oS p e below T36 (mkF m 273 #[iv p0, iv p1, iv p2, iv p3, iv p4, iv (own_n nn), rv b1, rv b3, iv (own_n nn), iv 1, iv (own_n kq13), iv (own_n kq14), iv 0, iv 0, iv (own_n kq24), iv (own_n kq25), iv 0, iv 0, iv (own_n kq31), iv (own_n kq32), iv 0, iv 0, .unset, .unset, .unset, .unset] []) _
            refine XT.iconstV X36.here hx rfl (1 : Int32) (hb hby at_273) (by decide) ?_
            refine XS.goto X36.here hx rfl (pc0 := 274) (pc' := 278) rfl (hb hby at_274) (by decide) (by decide) ?_
            refine XS.istore X36.here hx rfl (hb hby at_278) rfl (l' := #[iv p0, iv p1, iv p2, iv p3, iv p4, iv (own_n nn), rv b1, rv b3, iv (own_n nn), iv 1, iv (own_n kq13), iv (own_n kq14), iv 0, iv 0, iv (own_n kq24), iv (own_n kq25), iv 0, iv 0, iv (own_n kq31), iv (own_n kq32), iv 0, iv 0, .unset, .unset, .unset, .unset]) rfl ?_
            refine XS.iload X36.here hx rfl (hb hby at_280) rfl ?_
            refine XS.iload X36.here hx rfl (hb hby at_282) rfl ?_
            refine st38 _ ?_
            refine XS.istore X38.here hx rfl (hb hby at_287) rfl (l' := #[iv p0, iv p1, iv p2, iv p3, iv p4, iv (own_n nn), rv b1, rv b3, iv (own_n nn), iv 1, iv (own_n kq13), iv (own_n kq14), iv 0, iv 0, iv (own_n kq24), iv (own_n kq25), iv 0, iv 0, iv (own_n kq31), iv (own_n kq32), iv 0, iv 0, iv (own_n kq38), .unset, .unset, .unset]) rfl ?_
            refine XS.iload X38.here hx rfl (hb hby at_289) rfl ?_
            show oS p e below T38 (mkF m 291 #[iv p0, iv p1, iv p2, iv p3, iv p4, iv (own_n nn), rv b1, rv b3, iv (own_n nn), iv 1, iv (own_n kq13), iv (own_n kq14), iv 0, iv 0, iv (own_n kq24), iv (own_n kq25), iv 0, iv 0, iv (own_n kq31), iv (own_n kq32), iv 0, iv 0, iv (own_n kq38), .unset, .unset, .unset] [(.int p4)]) _
            refine XS.iload X38.here hx rfl (hb hby at_291) rfl ?_
            refine st39 _ ?_
            refine XS.istore X39.here hx rfl (hb hby at_296) rfl (l' := #[iv p0, iv p1, iv p2, iv p3, iv p4, iv (own_n nn), rv b1, rv b3, iv (own_n nn), iv 1, iv (own_n kq13), iv (own_n kq14), iv 0, iv 0, iv (own_n kq24), iv (own_n kq25), iv 0, iv 0, iv (own_n kq31), iv (own_n kq32), iv 0, iv 0, iv (own_n kq38), iv (own_n kq39), .unset, .unset]) rfl ?_
            refine XS.aload X39.here hx rfl (hb hby at_298) rfl rfl ?_
            refine XS.iload X39.here hx rfl (hb hby at_300) rfl ?_
            refine XS.iload X39.here hx rfl (hb hby at_302) rfl ?_
            refine st40 _ ?_
            refine XS.istore X40.here hx rfl (hb hby at_307) rfl (l' := #[iv p0, iv p1, iv p2, iv p3, iv p4, iv (own_n nn), rv b1, rv b3, iv (own_n nn), iv 1, iv (own_n kq13), iv (own_n kq14), iv 0, iv 0, iv (own_n kq24), iv (own_n kq25), iv 0, iv 0, iv (own_n kq31), iv (own_n kq32), iv 0, iv 0, iv (own_n kq38), iv (own_n kq39), iv 0, .unset]) rfl ?_
            show oS p e below T40 (mkF m 309 #[iv p0, iv p1, iv p2, iv p3, iv p4, iv (own_n nn), rv b1, rv b3, iv (own_n nn), iv 1, iv (own_n kq13), iv (own_n kq14), iv 0, iv 0, iv (own_n kq24), iv (own_n kq25), iv 0, iv 0, iv (own_n kq31), iv (own_n kq32), iv 0, iv 0, iv (own_n kq38), iv (own_n kq39), iv 0, .unset] []) _
            refine XS.aload X40.here hx rfl (hb hby at_309) rfl rfl ?_
            refine XS.iload X40.here hx rfl (hb hby at_311) rfl ?_
            refine XS.iload X40.here hx rfl (hb hby at_313) rfl ?_
            refine st42 _ ?_
            refine XS.istore X42.here hx rfl (hb hby at_318) rfl (l' := #[iv p0, iv p1, iv p2, iv p3, iv p4, iv (own_n nn), rv b1, rv b3, iv (own_n nn), iv 1, iv (own_n kq13), iv (own_n kq14), iv 0, iv 0, iv (own_n kq24), iv (own_n kq25), iv 0, iv 0, iv (own_n kq31), iv (own_n kq32), iv 0, iv 0, iv (own_n kq38), iv (own_n kq39), iv 0, iv 0]) rfl ?_
            refine XS.iload X42.here hx rfl (hb hby at_320) rfl ?_
            refine XS.ifYes X42.here hx rfl (pc0 := 322) (pc' := 331) rfl (hb hby at_322) rfl (XT.i0_eq_t (by decide)) (by decide) (by decide) ?_
            refine XS.iload X42.here hx rfl (hb hby at_331) rfl ?_
            show oS p e below T42 (mkF m 333 #[iv p0, iv p1, iv p2, iv p3, iv p4, iv (own_n nn), rv b1, rv b3, iv (own_n nn), iv 1, iv (own_n kq13), iv (own_n kq14), iv 0, iv 0, iv (own_n kq24), iv (own_n kq25), iv 0, iv 0, iv (own_n kq31), iv (own_n kq32), iv 0, iv 0, iv (own_n kq38), iv (own_n kq39), iv 0, iv 0] [(.int 1)]) _
            refine XS.ifNo X42.here hx rfl (hb hby at_333) rfl (XT.i0_eq_f (by decide)) ?_
            refine XS.iload X42.here hx rfl (hb hby at_336) rfl ?_
            refine XS.iload X42.here hx rfl (hb hby at_338) rfl ?_
            refine XS.icmpNo X42.here hx rfl (hb hby at_340) rfl (XT.ii_ne_f (by decide)) ?_
            refine XS.aload X42.here hx rfl (hb hby at_343) rfl rfl ?_
            refine st43 _ ?_
            refine XS.iload X43.here hx rfl (hb hby at_348) rfl ?_
            refine XS.icmpNo X43.here hx rfl (hb hby at_350) rfl (XT.ii_ne_f rfl) ?_
            show oS p e below T43 (mkF m 353 #[iv p0, iv p1, iv p2, iv p3, iv p4, iv (own_n nn), rv b1, rv b3, iv (own_n nn), iv 1, iv (own_n kq13), iv (own_n kq14), iv 0, iv 0, iv (own_n kq24), iv (own_n kq25), iv 0, iv 0, iv (own_n kq31), iv (own_n kq32), iv 0, iv 0, iv (own_n kq38), iv (own_n kq39), iv 0, iv 0] []) _
            refine XT.iconstV X43.here hx rfl (1 : Int32) (hb hby at_353) (by decide) ?_
            refine XS.goto X43.here hx rfl (pc0 := 354) (pc' := 358) rfl (hb hby at_354) (by decide) (by decide) ?_
            refine XS.istore X43.here hx rfl (hb hby at_358) rfl (l' := #[iv p0, iv p1, iv p2, iv p3, iv p4, iv (own_n nn), rv b1, rv b3, iv (own_n nn), iv 1, iv (own_n kq13), iv (own_n kq14), iv 0, iv 0, iv (own_n kq24), iv (own_n kq25), iv 0, iv 0, iv (own_n kq31), iv (own_n kq32), iv 0, iv 0, iv (own_n kq38), iv (own_n kq39), iv 0, iv 0]) rfl ?_
            refine XS.iload X43.here hx rfl (hb hby at_360) rfl ?_
            exact kz)
          obtain ⟨fs, hr, hrun, hended, hW, hsame⟩ := X43.leave (v := some (.int 1)) (fun h => by rw [Bd.returns] at h; cases h)
          refine ⟨_, _, pre0 _ (S45 _ ?_), hrun, hended, _, _, rfl, ?_, ⟨_, rfl⟩, hW, hsame.mono (by decide) (by decide)⟩
          · exact retN X43 hx (t := .boolean) Bd.returns (by simp) (hb hby at_362) hr
          · show Qrm0s Z p0 p1 p2 p3 p4 nn h0 n0 _ T43.heap _
            rw [e43]
            exact ⟨rfl, N43⟩
        · have N40 := Fr.app N39 N40q
          have e40 : T40.heap = T40.heap := rfl
          have Zk40 : n0 ≤ T40.heap.size := Nat.le_trans Zk33 K40.1
          have Kk40 : Keep h0 T40.heap [] := Kk33.trans K40 (allS (Or.inr sz_b1) (allS (Or.inr sz_b2') all0))
          have f46 := (f34.keep K40 (ninS (Ne.symm ne_b1_b3) (ninS (Ne.symm ne_b2'_b3) nin0)))
          obtain ⟨_, T47, Lc47, X47, hQ47, st47⟩ := own_callS (W := 0) (y := mN5) X40 hx hZ hown (hw _ (own_w 30 rfl)) (hw _ (own_w 31 rfl)) (hw _ (own_w 16 rfl)) (hw _ (own_w 32 rfl)) (by decide) (rmRef1 l Z av0 hw [] b3 k3 own_n kq38 kq39 T40.heap n0 Zk40 f46 (Nat.lt_of_lt_of_le lq38 hnn) (Nat.lt_of_lt_of_le lq39 hnn) ge_b3 (fun q => rs40 ((RL2 _ lq38 _ lq39).mpr q))) (by decide) (by decide) (g := (mkF m 315 #[iv p0, iv p1, iv p2, iv p3, iv p4, iv (own_n nn), rv b1, rv b3, iv (own_n nn), iv 1, iv (own_n kq13), iv (own_n kq14), iv 0, iv 0, iv (own_n kq24), iv (own_n kq25), iv 0, iv 0, iv (own_n kq31), iv (own_n kq32), iv 0, iv 0, iv (own_n kq38), iv (own_n kq39), iv 1, .unset] [(.int (own_n kq39)), (.int (own_n kq38)), (.ref b3)])) rfl (by rw [hml]; rfl) (argsL := [(.ref b3), (.int (own_n kq38)), (.int (own_n kq39))]) (rest := []) (lenOf pd__III_Z rfl) rfl (hb hby at_315) rfl e40 (by decide : 3 + 0 ≤ _) (by decide : 10 + 0 ≤ _)
          obtain ⟨rfl, N47q, K47, B47⟩ := hQ47
          have N47 := Fr.app N40 N47q
          have e47 : T47.heap = T47.heap := rfl
          have Zk47 : n0 ≤ T47.heap.size := Nat.le_trans Zk40 K47.1
          have Kk47 : Keep h0 T47.heap [] := Kk40.trans K47 (allS (Or.inr sz_b3) all0)
          have RL47 := own_RL RL2 lq38 lq39
          have f48 := (C40.keep K47 (ninS ne_b1_b3 nin0))
          have f50 := ((f37.keep K40).keep K47)
          obtain ⟨_, T49, Lc49, X49, hQ49, st49⟩ := own_virtual (W := 0) (y := mN0) (z := mN0) X47 hx hZ hown (hw _ (own_w 33 rfl)) (hw _ (own_w 34 rfl)) (notFace_of_selects (args := #[]) (mvT hZ (hw _ (own_w 36 rfl)))) (hw _ (own_w 36 rfl)) (hw _ (own_w 35 rfl)) (hw _ (own_w 37 rfl)) (hw _ (own_w 2 rfl)) (by decide) (rmCount l Z av0 hw [] b1 ((own_n nn) - (1 : Int32)) T47.heap n0 Zk47 f48) (by decide) (by decide) f50 (g := (mkF m 345 #[iv p0, iv p1, iv p2, iv p3, iv p4, iv (own_n nn), rv b1, rv b3, iv (((own_n nn) - (1 : Int32))), iv 1, iv (own_n kq13), iv (own_n kq14), iv 0, iv 0, iv (own_n kq24), iv (own_n kq25), iv 0, iv 0, iv (own_n kq31), iv (own_n kq32), iv 0, iv 0, iv (own_n kq38), iv (own_n kq39), iv 1, iv 1] [(.ref b1)])) rfl (by rw [hml]; rfl) (argsL := []) (rest := []) (lenOf pd__I rfl) rfl (hb hby at_345) rfl e47 (by decide : 3 + 0 ≤ _) (by decide : 10 + 0 ≤ _)
          obtain ⟨rfl, N49q, hh49⟩ := hQ49
          have N49 := Fr.app N47 N49q
          have e49 : T49.heap = T47.heap := hh49
          have S51 : ∀ tz, oS p e below T49 (mkF m 362 #[iv p0, iv p1, iv p2, iv p3, iv p4, iv (own_n nn), rv b1, rv b3, iv (((own_n nn) - (1 : Int32))), iv 1, iv (own_n kq13), iv (own_n kq14), iv 0, iv 0, iv (own_n kq24), iv (own_n kq25), iv 0, iv 0, iv (own_n kq31), iv (own_n kq32), iv 0, iv 0, iv (own_n kq38), iv (own_n kq39), iv 1, iv 1] [(.int 1)]) tz → oS p e below s₁ (mkF m 0 #[iv p0, iv p1, iv p2, iv p3, iv p4, .unset, .unset, .unset, .unset, .unset, .unset, .unset, .unset, .unset, .unset, .unset, .unset, .unset, .unset, .unset, .unset, .unset, .unset, .unset, .unset, .unset] []) tz := fun tz kz => id (by
            show oS p e below s₁ (mkF m 0 #[iv p0, iv p1, iv p2, iv p3, iv p4, .unset, .unset, .unset, .unset, .unset, .unset, .unset, .unset, .unset, .unset, .unset, .unset, .unset, .unset, .unset, .unset, .unset, .unset, .unset, .unset, .unset] []) _
            refine XT.iconstV X0.here hx rfl (1 : Int32) (hb hby at_0) (by decide) ?_
            refine XS.iloadN X0.here hx rfl (hb hby at_1) rfl ?_
            refine XT.iconstV X0.here hx rfl (3 : Int32) (hb hby at_2) (by decide) ?_
            refine XS.iand X0.here hx rfl (hb hby at_3) rfl ?_
            refine XS.iadd X0.here hx rfl (hb hby at_4) rfl ?_
            show oS p e below s₁ (mkF m 5 #[iv p0, iv p1, iv p2, iv p3, iv p4, .unset, .unset, .unset, .unset, .unset, .unset, .unset, .unset, .unset, .unset, .unset, .unset, .unset, .unset, .unset, .unset, .unset, .unset, .unset, .unset, .unset] [(.int ((1 : Int32) + (p0 &&& (3 : Int32))))]) _
            rw [hn]
            show oS p e below s₁ (mkF m 5 #[iv p0, iv p1, iv p2, iv p3, iv p4, .unset, .unset, .unset, .unset, .unset, .unset, .unset, .unset, .unset, .unset, .unset, .unset, .unset, .unset, .unset, .unset, .unset, .unset, .unset, .unset, .unset] [(.int (own_n nn))]) _
            refine XS.istore X0.here hx rfl (hb hby at_5) rfl (l' := #[iv p0, iv p1, iv p2, iv p3, iv p4, iv (own_n nn), .unset, .unset, .unset, .unset, .unset, .unset, .unset, .unset, .unset, .unset, .unset, .unset, .unset, .unset, .unset, .unset, .unset, .unset, .unset, .unset]) rfl ?_
            refine st1 _ ?_
            show oS p e below T1 (mkF m 10 #[iv p0, iv p1, iv p2, iv p3, iv p4, iv (own_n nn), .unset, .unset, .unset, .unset, .unset, .unset, .unset, .unset, .unset, .unset, .unset, .unset, .unset, .unset, .unset, .unset, .unset, .unset, .unset, .unset] [(.ref b1)]) _
            refine XS.dup X1.here hx rfl (hb hby at_10) rfl rfl ?_
            refine XS.iload X1.here hx rfl (hb hby at_11) rfl ?_
            refine st2 _ ?_
            refine XS.astore X2.here hx rfl (hb hby at_16) rfl rfl (l' := #[iv p0, iv p1, iv p2, iv p3, iv p4, iv (own_n nn), rv b1, .unset, .unset, .unset, .unset, .unset, .unset, .unset, .unset, .unset, .unset, .unset, .unset, .unset, .unset, .unset, .unset, .unset, .unset, .unset]) rfl ?_
            refine XT.iconstV X2.here hx rfl (4 : Int32) (hb hby at_18) (by decide) ?_
            refine st3 _ ?_
            refine XS.dup X3.here hx rfl (hb hby at_21) rfl rfl ?_
            refine XT.iconstV X3.here hx rfl (0 : Int32) (hb hby at_22) (by decide) ?_
            show oS p e below T3 (mkF m 23 #[iv p0, iv p1, iv p2, iv p3, iv p4, iv (own_n nn), rv b1, .unset, .unset, .unset, .unset, .unset, .unset, .unset, .unset, .unset, .unset, .unset, .unset, .unset, .unset, .unset, .unset, .unset, .unset, .unset] [(.int 0), (.ref b3), (.ref b3)]) _
            refine XT.iconstV X3.here hx rfl (0 : Int32) (hb hby at_23) (by decide) ?_
            refine st6 _ ?_
            refine XS.dup X6.here hx rfl (hb hby at_25) rfl rfl ?_
            refine XT.iconstV X6.here hx rfl (1 : Int32) (hb hby at_26) (by decide) ?_
            refine XT.iconstV X6.here hx rfl (1 : Int32) (hb hby at_27) (by decide) ?_
            refine st8 _ ?_
            refine XS.dup X8.here hx rfl (hb hby at_29) rfl rfl ?_
            refine XT.iconstV X8.here hx rfl (2 : Int32) (hb hby at_30) (by decide) ?_
            show oS p e below T8 (mkF m 31 #[iv p0, iv p1, iv p2, iv p3, iv p4, iv (own_n nn), rv b1, .unset, .unset, .unset, .unset, .unset, .unset, .unset, .unset, .unset, .unset, .unset, .unset, .unset, .unset, .unset, .unset, .unset, .unset, .unset] [(.int 2), (.ref b3), (.ref b3)]) _
            refine XT.iconstV X8.here hx rfl (2 : Int32) (hb hby at_31) (by decide) ?_
            refine st10 _ ?_
            refine XS.dup X10.here hx rfl (hb hby at_33) rfl rfl ?_
            refine XT.iconstV X10.here hx rfl (3 : Int32) (hb hby at_34) (by decide) ?_
            refine XT.iconstV X10.here hx rfl (3 : Int32) (hb hby at_35) (by decide) ?_
            refine st12 _ ?_
            refine XS.astore X12.here hx rfl (hb hby at_37) rfl rfl (l' := #[iv p0, iv p1, iv p2, iv p3, iv p4, iv (own_n nn), rv b1, rv b3, .unset, .unset, .unset, .unset, .unset, .unset, .unset, .unset, .unset, .unset, .unset, .unset, .unset, .unset, .unset, .unset, .unset, .unset]) rfl ?_
            refine XS.iload X12.here hx rfl (hb hby at_39) rfl ?_
            show oS p e below T12 (mkF m 41 #[iv p0, iv p1, iv p2, iv p3, iv p4, iv (own_n nn), rv b1, rv b3, .unset, .unset, .unset, .unset, .unset, .unset, .unset, .unset, .unset, .unset, .unset, .unset, .unset, .unset, .unset, .unset, .unset, .unset] [(.int (own_n nn))]) _
            refine XS.istore X12.here hx rfl (hb hby at_41) rfl (l' := #[iv p0, iv p1, iv p2, iv p3, iv p4, iv (own_n nn), rv b1, rv b3, iv (own_n nn), .unset, .unset, .unset, .unset, .unset, .unset, .unset, .unset, .unset, .unset, .unset, .unset, .unset, .unset, .unset, .unset, .unset]) rfl ?_
            refine XT.iconstV X12.here hx rfl (1 : Int32) (hb hby at_43) (by decide) ?_
            refine XS.istore X12.here hx rfl (hb hby at_44) rfl (l' := #[iv p0, iv p1, iv p2, iv p3, iv p4, iv (own_n nn), rv b1, rv b3, iv (own_n nn), iv 1, .unset, .unset, .unset, .unset, .unset, .unset, .unset, .unset, .unset, .unset, .unset, .unset, .unset, .unset, .unset, .unset]) rfl ?_
            refine XS.iloadN X12.here hx rfl (hb hby at_46) rfl ?_
            refine XS.iload X12.here hx rfl (hb hby at_47) rfl ?_
            refine st13 _ ?_
            refine XS.istore X13.here hx rfl (hb hby at_52) rfl (l' := #[iv p0, iv p1, iv p2, iv p3, iv p4, iv (own_n nn), rv b1, rv b3, iv (own_n nn), iv 1, iv (own_n kq13), .unset, .unset, .unset, .unset, .unset, .unset, .unset, .unset, .unset, .unset, .unset, .unset, .unset, .unset, .unset]) rfl ?_
            refine XS.iloadN X13.here hx rfl (hb hby at_54) rfl ?_
            show oS p e below T13 (mkF m 55 #[iv p0, iv p1, iv p2, iv p3, iv p4, iv (own_n nn), rv b1, rv b3, iv (own_n nn), iv 1, iv (own_n kq13), .unset, .unset, .unset, .unset, .unset, .unset, .unset, .unset, .unset, .unset, .unset, .unset, .unset, .unset, .unset] [(.int p1)]) _
            refine XS.iload X13.here hx rfl (hb hby at_55) rfl ?_
            refine st14 _ ?_
            refine XS.istore X14.here hx rfl (hb hby at_60) rfl (l' := #[iv p0, iv p1, iv p2, iv p3, iv p4, iv (own_n nn), rv b1, rv b3, iv (own_n nn), iv 1, iv (own_n kq13), iv (own_n kq14), .unset, .unset, .unset, .unset, .unset, .unset, .unset, .unset, .unset, .unset, .unset, .unset, .unset, .unset]) rfl ?_
            refine XS.aload X14.here hx rfl (hb hby at_62) rfl rfl ?_
            refine XS.iload X14.here hx rfl (hb hby at_64) rfl ?_
            refine XS.iload X14.here hx rfl (hb hby at_66) rfl ?_
            refine st19 _ ?_
            refine XS.istore X19.here hx rfl (hb hby at_71) rfl (l' := #[iv p0, iv p1, iv p2, iv p3, iv p4, iv (own_n nn), rv b1, rv b3, iv (own_n nn), iv 1, iv (own_n kq13), iv (own_n kq14), iv 0, .unset, .unset, .unset, .unset, .unset, .unset, .unset, .unset, .unset, .unset, .unset, .unset, .unset]) rfl ?_
            show oS p e below T19 (mkF m 73 #[iv p0, iv p1, iv p2, iv p3, iv p4, iv (own_n nn), rv b1, rv b3, iv (own_n nn), iv 1, iv (own_n kq13), iv (own_n kq14), iv 0, .unset, .unset, .unset, .unset, .unset, .unset, .unset, .unset, .unset, .unset, .unset, .unset, .unset] []) _
            refine XS.aload X19.here hx rfl (hb hby at_73) rfl rfl ?_
            refine XS.iload X19.here hx rfl (hb hby at_75) rfl ?_
            refine XS.iload X19.here hx rfl (hb hby at_77) rfl ?_
            refine st21 _ ?_
            refine XS.istore X21.here hx rfl (hb hby at_82) rfl (l' := #[iv p0, iv p1, iv p2, iv p3, iv p4, iv (own_n nn), rv b1, rv b3, iv (own_n nn), iv 1, iv (own_n kq13), iv (own_n kq14), iv 0, iv 0, .unset, .unset, .unset, .unset, .unset, .unset, .unset, .unset, .unset, .unset, .unset, .unset]) rfl ?_
            refine XS.iload X21.here hx rfl (hb hby at_84) rfl ?_
            refine XS.ifYes X21.here hx rfl (pc0 := 86) (pc' := 95) rfl (hb hby at_86) rfl (XT.i0_eq_t (by decide)) (by decide) (by decide) ?_
            refine XS.iload X21.here hx rfl (hb hby at_95) rfl ?_
            show oS p e below T21 (mkF m 97 #[iv p0, iv p1, iv p2, iv p3, iv p4, iv (own_n nn), rv b1, rv b3, iv (own_n nn), iv 1, iv (own_n kq13), iv (own_n kq14), iv 0, iv 0, .unset, .unset, .unset, .unset, .unset, .unset, .unset, .unset, .unset, .unset, .unset, .unset] [(.int 1)]) _
            refine XS.ifNo X21.here hx rfl (hb hby at_97) rfl (XT.i0_eq_f (by decide)) ?_
            refine XS.iload X21.here hx rfl (hb hby at_100) rfl ?_
            refine XS.iload X21.here hx rfl (hb hby at_102) rfl ?_
            refine XS.icmpNo X21.here hx rfl (hb hby at_104) rfl (XT.ii_ne_f (by decide)) ?_
            refine XS.aload X21.here hx rfl (hb hby at_107) rfl rfl ?_
            refine st22 _ ?_
            refine XS.iload X22.here hx rfl (hb hby at_112) rfl ?_
            refine XS.icmpNo X22.here hx rfl (hb hby at_114) rfl (XT.ii_ne_f rfl) ?_
            show oS p e below T22 (mkF m 117 #[iv p0, iv p1, iv p2, iv p3, iv p4, iv (own_n nn), rv b1, rv b3, iv (own_n nn), iv 1, iv (own_n kq13), iv (own_n kq14), iv 0, iv 0, .unset, .unset, .unset, .unset, .unset, .unset, .unset, .unset, .unset, .unset, .unset, .unset] []) _
            refine XT.iconstV X22.here hx rfl (1 : Int32) (hb hby at_117) (by decide) ?_
            refine XS.goto X22.here hx rfl (pc0 := 118) (pc' := 122) rfl (hb hby at_118) (by decide) (by decide) ?_
            refine XS.istore X22.here hx rfl (hb hby at_122) rfl (l' := #[iv p0, iv p1, iv p2, iv p3, iv p4, iv (own_n nn), rv b1, rv b3, iv (own_n nn), iv 1, iv (own_n kq13), iv (own_n kq14), iv 0, iv 0, .unset, .unset, .unset, .unset, .unset, .unset, .unset, .unset, .unset, .unset, .unset, .unset]) rfl ?_
            refine XS.iloadN X22.here hx rfl (hb hby at_124) rfl ?_
            refine XS.iload X22.here hx rfl (hb hby at_125) rfl ?_
            refine st24 _ ?_
            refine XS.istore X24.here hx rfl (hb hby at_130) rfl (l' := #[iv p0, iv p1, iv p2, iv p3, iv p4, iv (own_n nn), rv b1, rv b3, iv (own_n nn), iv 1, iv (own_n kq13), iv (own_n kq14), iv 0, iv 0, iv (own_n kq24), .unset, .unset, .unset, .unset, .unset, .unset, .unset, .unset, .unset, .unset, .unset]) rfl ?_
            refine XS.iloadN X24.here hx rfl (hb hby at_132) rfl ?_
            show oS p e below T24 (mkF m 133 #[iv p0, iv p1, iv p2, iv p3, iv p4, iv (own_n nn), rv b1, rv b3, iv (own_n nn), iv 1, iv (own_n kq13), iv (own_n kq14), iv 0, iv 0, iv (own_n kq24), .unset, .unset, .unset, .unset, .unset, .unset, .unset, .unset, .unset, .unset, .unset] [(.int p2)]) _
            refine XS.iload X24.here hx rfl (hb hby at_133) rfl ?_
            refine st25 _ ?_
            refine XS.istore X25.here hx rfl (hb hby at_138) rfl (l' := #[iv p0, iv p1, iv p2, iv p3, iv p4, iv (own_n nn), rv b1, rv b3, iv (own_n nn), iv 1, iv (own_n kq13), iv (own_n kq14), iv 0, iv 0, iv (own_n kq24), iv (own_n kq25), .unset, .unset, .unset, .unset, .unset, .unset, .unset, .unset, .unset, .unset]) rfl ?_
            refine XS.aload X25.here hx rfl (hb hby at_140) rfl rfl ?_
            refine XS.iload X25.here hx rfl (hb hby at_142) rfl ?_
            refine XS.iload X25.here hx rfl (hb hby at_144) rfl ?_
            refine st26 _ ?_
            refine XS.istore X26.here hx rfl (hb hby at_149) rfl (l' := #[iv p0, iv p1, iv p2, iv p3, iv p4, iv (own_n nn), rv b1, rv b3, iv (own_n nn), iv 1, iv (own_n kq13), iv (own_n kq14), iv 0, iv 0, iv (own_n kq24), iv (own_n kq25), iv 0, .unset, .unset, .unset, .unset, .unset, .unset, .unset, .unset, .unset]) rfl ?_
            show oS p e below T26 (mkF m 151 #[iv p0, iv p1, iv p2, iv p3, iv p4, iv (own_n nn), rv b1, rv b3, iv (own_n nn), iv 1, iv (own_n kq13), iv (own_n kq14), iv 0, iv 0, iv (own_n kq24), iv (own_n kq25), iv 0, .unset, .unset, .unset, .unset, .unset, .unset, .unset, .unset, .unset] []) _
            refine XS.aload X26.here hx rfl (hb hby at_151) rfl rfl ?_
            refine XS.iload X26.here hx rfl (hb hby at_153) rfl ?_
            refine XS.iload X26.here hx rfl (hb hby at_155) rfl ?_
            refine st28 _ ?_
            refine XS.istore X28.here hx rfl (hb hby at_160) rfl (l' := #[iv p0, iv p1, iv p2, iv p3, iv p4, iv (own_n nn), rv b1, rv b3, iv (own_n nn), iv 1, iv (own_n kq13), iv (own_n kq14), iv 0, iv 0, iv (own_n kq24), iv (own_n kq25), iv 0, iv 0, .unset, .unset, .unset, .unset, .unset, .unset, .unset, .unset]) rfl ?_
            refine XS.iload X28.here hx rfl (hb hby at_162) rfl ?_
            refine XS.ifYes X28.here hx rfl (pc0 := 164) (pc' := 173) rfl (hb hby at_164) rfl (XT.i0_eq_t (by decide)) (by decide) (by decide) ?_
            refine XS.iload X28.here hx rfl (hb hby at_173) rfl ?_
            show oS p e below T28 (mkF m 175 #[iv p0, iv p1, iv p2, iv p3, iv p4, iv (own_n nn), rv b1, rv b3, iv (own_n nn), iv 1, iv (own_n kq13), iv (own_n kq14), iv 0, iv 0, iv (own_n kq24), iv (own_n kq25), iv 0, iv 0, .unset, .unset, .unset, .unset, .unset, .unset, .unset, .unset] [(.int 1)]) _
            refine XS.ifNo X28.here hx rfl (hb hby at_175) rfl (XT.i0_eq_f (by decide)) ?_
            refine XS.iload X28.here hx rfl (hb hby at_178) rfl ?_
            refine XS.iload X28.here hx rfl (hb hby at_180) rfl ?_
            refine XS.icmpNo X28.here hx rfl (hb hby at_182) rfl (XT.ii_ne_f (by decide)) ?_
            refine XS.aload X28.here hx rfl (hb hby at_185) rfl rfl ?_
            refine st29 _ ?_
            refine XS.iload X29.here hx rfl (hb hby at_190) rfl ?_
            refine XS.icmpNo X29.here hx rfl (hb hby at_192) rfl (XT.ii_ne_f rfl) ?_
            show oS p e below T29 (mkF m 195 #[iv p0, iv p1, iv p2, iv p3, iv p4, iv (own_n nn), rv b1, rv b3, iv (own_n nn), iv 1, iv (own_n kq13), iv (own_n kq14), iv 0, iv 0, iv (own_n kq24), iv (own_n kq25), iv 0, iv 0, .unset, .unset, .unset, .unset, .unset, .unset, .unset, .unset] []) _
            refine XT.iconstV X29.here hx rfl (1 : Int32) (hb hby at_195) (by decide) ?_
            refine XS.goto X29.here hx rfl (pc0 := 196) (pc' := 200) rfl (hb hby at_196) (by decide) (by decide) ?_
            refine XS.istore X29.here hx rfl (hb hby at_200) rfl (l' := #[iv p0, iv p1, iv p2, iv p3, iv p4, iv (own_n nn), rv b1, rv b3, iv (own_n nn), iv 1, iv (own_n kq13), iv (own_n kq14), iv 0, iv 0, iv (own_n kq24), iv (own_n kq25), iv 0, iv 0, .unset, .unset, .unset, .unset, .unset, .unset, .unset, .unset]) rfl ?_
            refine XS.iloadN X29.here hx rfl (hb hby at_202) rfl ?_
            refine XS.iload X29.here hx rfl (hb hby at_203) rfl ?_
            refine st31 _ ?_
            refine XS.istore X31.here hx rfl (hb hby at_208) rfl (l' := #[iv p0, iv p1, iv p2, iv p3, iv p4, iv (own_n nn), rv b1, rv b3, iv (own_n nn), iv 1, iv (own_n kq13), iv (own_n kq14), iv 0, iv 0, iv (own_n kq24), iv (own_n kq25), iv 0, iv 0, iv (own_n kq31), .unset, .unset, .unset, .unset, .unset, .unset, .unset]) rfl ?_
            refine XS.iloadN X31.here hx rfl (hb hby at_210) rfl ?_
            show oS p e below T31 (mkF m 211 #[iv p0, iv p1, iv p2, iv p3, iv p4, iv (own_n nn), rv b1, rv b3, iv (own_n nn), iv 1, iv (own_n kq13), iv (own_n kq14), iv 0, iv 0, iv (own_n kq24), iv (own_n kq25), iv 0, iv 0, iv (own_n kq31), .unset, .unset, .unset, .unset, .unset, .unset, .unset] [(.int p3)]) _
            refine XS.iload X31.here hx rfl (hb hby at_211) rfl ?_
            refine st32 _ ?_
            refine XS.istore X32.here hx rfl (hb hby at_216) rfl (l' := #[iv p0, iv p1, iv p2, iv p3, iv p4, iv (own_n nn), rv b1, rv b3, iv (own_n nn), iv 1, iv (own_n kq13), iv (own_n kq14), iv 0, iv 0, iv (own_n kq24), iv (own_n kq25), iv 0, iv 0, iv (own_n kq31), iv (own_n kq32), .unset, .unset, .unset, .unset, .unset, .unset]) rfl ?_
            refine XS.aload X32.here hx rfl (hb hby at_218) rfl rfl ?_
            refine XS.iload X32.here hx rfl (hb hby at_220) rfl ?_
            refine XS.iload X32.here hx rfl (hb hby at_222) rfl ?_
            refine st33 _ ?_
            refine XS.istore X33.here hx rfl (hb hby at_227) rfl (l' := #[iv p0, iv p1, iv p2, iv p3, iv p4, iv (own_n nn), rv b1, rv b3, iv (own_n nn), iv 1, iv (own_n kq13), iv (own_n kq14), iv 0, iv 0, iv (own_n kq24), iv (own_n kq25), iv 0, iv 0, iv (own_n kq31), iv (own_n kq32), iv 0, .unset, .unset, .unset, .unset, .unset]) rfl ?_
            show oS p e below T33 (mkF m 229 #[iv p0, iv p1, iv p2, iv p3, iv p4, iv (own_n nn), rv b1, rv b3, iv (own_n nn), iv 1, iv (own_n kq13), iv (own_n kq14), iv 0, iv 0, iv (own_n kq24), iv (own_n kq25), iv 0, iv 0, iv (own_n kq31), iv (own_n kq32), iv 0, .unset, .unset, .unset, .unset, .unset] []) _
            refine XS.aload X33.here hx rfl (hb hby at_229) rfl rfl ?_
            refine XS.iload X33.here hx rfl (hb hby at_231) rfl ?_
            refine XS.iload X33.here hx rfl (hb hby at_233) rfl ?_
            refine st35 _ ?_
            refine XS.istore X35.here hx rfl (hb hby at_238) rfl (l' := #[iv p0, iv p1, iv p2, iv p3, iv p4, iv (own_n nn), rv b1, rv b3, iv (own_n nn), iv 1, iv (own_n kq13), iv (own_n kq14), iv 0, iv 0, iv (own_n kq24), iv (own_n kq25), iv 0, iv 0, iv (own_n kq31), iv (own_n kq32), iv 0, iv 0, .unset, .unset, .unset, .unset]) rfl ?_
            refine XS.iload X35.here hx rfl (hb hby at_240) rfl ?_
            refine XS.ifYes X35.here hx rfl (pc0 := 242) (pc' := 251) rfl (hb hby at_242) rfl (XT.i0_eq_t (by decide)) (by decide) (by decide) ?_
            refine XS.iload X35.here hx rfl (hb hby at_251) rfl ?_
            show oS p e below T35 (mkF m 253 #[iv p0, iv p1, iv p2, iv p3, iv p4, iv (own_n nn), rv b1, rv b3, iv (own_n nn), iv 1, iv (own_n kq13), iv (own_n kq14), iv 0, iv 0, iv (own_n kq24), iv (own_n kq25), iv 0, iv 0, iv (own_n kq31), iv (own_n kq32), iv 0, iv 0, .unset, .unset, .unset, .unset] [(.int 1)]) _
            refine XS.ifNo X35.here hx rfl (hb hby at_253) rfl (XT.i0_eq_f (by decide)) ?_
            refine XS.iload X35.here hx rfl (hb hby at_256) rfl ?_
            refine XS.iload X35.here hx rfl (hb hby at_258) rfl ?_
            refine XS.icmpNo X35.here hx rfl (hb hby at_260) rfl (XT.ii_ne_f (by decide)) ?_
            refine XS.aload X35.here hx rfl (hb hby at_263) rfl rfl ?_
            refine st36 _ ?_
            refine XS.iload X36.here hx rfl (hb hby at_268) rfl ?_
            refine XS.icmpNo X36.here hx rfl (hb hby at_270) rfl (XT.ii_ne_f rfl) ?_
            show oS p e below T36 (mkF m 273 #[iv p0, iv p1, iv p2, iv p3, iv p4, iv (own_n nn), rv b1, rv b3, iv (own_n nn), iv 1, iv (own_n kq13), iv (own_n kq14), iv 0, iv 0, iv (own_n kq24), iv (own_n kq25), iv 0, iv 0, iv (own_n kq31), iv (own_n kq32), iv 0, iv 0, .unset, .unset, .unset, .unset] []) _
            refine XT.iconstV X36.here hx rfl (1 : Int32) (hb hby at_273) (by decide) ?_
            refine XS.goto X36.here hx rfl (pc0 := 274) (pc' := 278) rfl (hb hby at_274) (by decide) (by decide) ?_
            refine XS.istore X36.here hx rfl (hb hby at_278) rfl (l' := #[iv p0, iv p1, iv p2, iv p3, iv p4, iv (own_n nn), rv b1, rv b3, iv (own_n nn), iv 1, iv (own_n kq13), iv (own_n kq14), iv 0, iv 0, iv (own_n kq24), iv (own_n kq25), iv 0, iv 0, iv (own_n kq31), iv (own_n kq32), iv 0, iv 0, .unset, .unset, .unset, .unset]) rfl ?_
            refine XS.iload X36.here hx rfl (hb hby at_280) rfl ?_
            refine XS.iload X36.here hx rfl (hb hby at_282) rfl ?_
            refine st38 _ ?_
            refine XS.istore X38.here hx rfl (hb hby at_287) rfl (l' := #[iv p0, iv p1, iv p2, iv p3, iv p4, iv (own_n nn), rv b1, rv b3, iv (own_n nn), iv 1, iv (own_n kq13), iv (own_n kq14), iv 0, iv 0, iv (own_n kq24), iv (own_n kq25), iv 0, iv 0, iv (own_n kq31), iv (own_n kq32), iv 0, iv 0, iv (own_n kq38), .unset, .unset, .unset]) rfl ?_
            refine XS.iload X38.here hx rfl (hb hby at_289) rfl ?_
            show oS p e below T38 (mkF m 291 #[iv p0, iv p1, iv p2, iv p3, iv p4, iv (own_n nn), rv b1, rv b3, iv (own_n nn), iv 1, iv (own_n kq13), iv (own_n kq14), iv 0, iv 0, iv (own_n kq24), iv (own_n kq25), iv 0, iv 0, iv (own_n kq31), iv (own_n kq32), iv 0, iv 0, iv (own_n kq38), .unset, .unset, .unset] [(.int p4)]) _
            refine XS.iload X38.here hx rfl (hb hby at_291) rfl ?_
            refine st39 _ ?_
            refine XS.istore X39.here hx rfl (hb hby at_296) rfl (l' := #[iv p0, iv p1, iv p2, iv p3, iv p4, iv (own_n nn), rv b1, rv b3, iv (own_n nn), iv 1, iv (own_n kq13), iv (own_n kq14), iv 0, iv 0, iv (own_n kq24), iv (own_n kq25), iv 0, iv 0, iv (own_n kq31), iv (own_n kq32), iv 0, iv 0, iv (own_n kq38), iv (own_n kq39), .unset, .unset]) rfl ?_
            refine XS.aload X39.here hx rfl (hb hby at_298) rfl rfl ?_
            refine XS.iload X39.here hx rfl (hb hby at_300) rfl ?_
            refine XS.iload X39.here hx rfl (hb hby at_302) rfl ?_
            refine st40 _ ?_
            refine XS.istore X40.here hx rfl (hb hby at_307) rfl (l' := #[iv p0, iv p1, iv p2, iv p3, iv p4, iv (own_n nn), rv b1, rv b3, iv (own_n nn), iv 1, iv (own_n kq13), iv (own_n kq14), iv 0, iv 0, iv (own_n kq24), iv (own_n kq25), iv 0, iv 0, iv (own_n kq31), iv (own_n kq32), iv 0, iv 0, iv (own_n kq38), iv (own_n kq39), iv 1, .unset]) rfl ?_
            show oS p e below T40 (mkF m 309 #[iv p0, iv p1, iv p2, iv p3, iv p4, iv (own_n nn), rv b1, rv b3, iv (own_n nn), iv 1, iv (own_n kq13), iv (own_n kq14), iv 0, iv 0, iv (own_n kq24), iv (own_n kq25), iv 0, iv 0, iv (own_n kq31), iv (own_n kq32), iv 0, iv 0, iv (own_n kq38), iv (own_n kq39), iv 1, .unset] []) _
            refine XS.aload X40.here hx rfl (hb hby at_309) rfl rfl ?_
            refine XS.iload X40.here hx rfl (hb hby at_311) rfl ?_
            refine XS.iload X40.here hx rfl (hb hby at_313) rfl ?_
            refine st47 _ ?_
            refine XS.istore X47.here hx rfl (hb hby at_318) rfl (l' := #[iv p0, iv p1, iv p2, iv p3, iv p4, iv (own_n nn), rv b1, rv b3, iv (own_n nn), iv 1, iv (own_n kq13), iv (own_n kq14), iv 0, iv 0, iv (own_n kq24), iv (own_n kq25), iv 0, iv 0, iv (own_n kq31), iv (own_n kq32), iv 0, iv 0, iv (own_n kq38), iv (own_n kq39), iv 1, iv 1]) rfl ?_
            refine XS.iload X47.here hx rfl (hb hby at_320) rfl ?_
            refine XS.ifNo X47.here hx rfl (hb hby at_322) rfl (XT.i0_eq_f (by decide)) ?_
            refine XS.iload X47.here hx rfl (hb hby at_325) rfl ?_
            show oS p e below T47 (mkF m 327 #[iv p0, iv p1, iv p2, iv p3, iv p4, iv (own_n nn), rv b1, rv b3, iv (own_n nn), iv 1, iv (own_n kq13), iv (own_n kq14), iv 0, iv 0, iv (own_n kq24), iv (own_n kq25), iv 0, iv 0, iv (own_n kq31), iv (own_n kq32), iv 0, iv 0, iv (own_n kq38), iv (own_n kq39), iv 1, iv 1] [(.int (own_n nn))]) _
            refine XT.iconstV X47.here hx rfl (1 : Int32) (hb hby at_327) (by decide) ?_
            refine XS.isub X47.here hx rfl (hb hby at_328) rfl ?_
            refine XS.istore X47.here hx rfl (hb hby at_329) rfl (l' := #[iv p0, iv p1, iv p2, iv p3, iv p4, iv (own_n nn), rv b1, rv b3, iv (((own_n nn) - (1 : Int32))), iv 1, iv (own_n kq13), iv (own_n kq14), iv 0, iv 0, iv (own_n kq24), iv (own_n kq25), iv 0, iv 0, iv (own_n kq31), iv (own_n kq32), iv 0, iv 0, iv (own_n kq38), iv (own_n kq39), iv 1, iv 1]) rfl ?_
            refine XS.iload X47.here hx rfl (hb hby at_331) rfl ?_
            refine XS.ifNo X47.here hx rfl (hb hby at_333) rfl (XT.i0_eq_f (by decide)) ?_
            refine XS.iload X47.here hx rfl (hb hby at_336) rfl ?_
            refine XS.iload X47.here hx rfl (hb hby at_338) rfl ?_
            refine XS.icmpNo X47.here hx rfl (hb hby at_340) rfl (XT.ii_ne_f (by decide)) ?_
            show oS p e below T47 (mkF m 343 #[iv p0, iv p1, iv p2, iv p3, iv p4, iv (own_n nn), rv b1, rv b3, iv (((own_n nn) - (1 : Int32))), iv 1, iv (own_n kq13), iv (own_n kq14), iv 0, iv 0, iv (own_n kq24), iv (own_n kq25), iv 0, iv 0, iv (own_n kq31), iv (own_n kq32), iv 0, iv 0, iv (own_n kq38), iv (own_n kq39), iv 1, iv 1] []) _
            refine XS.aload X47.here hx rfl (hb hby at_343) rfl rfl ?_
            refine st49 _ ?_
            refine XS.iload X49.here hx rfl (hb hby at_348) rfl ?_
            refine XS.icmpNo X49.here hx rfl (hb hby at_350) rfl (XT.ii_ne_f rfl) ?_
            refine XT.iconstV X49.here hx rfl (1 : Int32) (hb hby at_353) (by decide) ?_
            refine XS.goto X49.here hx rfl (pc0 := 354) (pc' := 358) rfl (hb hby at_354) (by decide) (by decide) ?_
            refine XS.istore X49.here hx rfl (hb hby at_358) rfl (l' := #[iv p0, iv p1, iv p2, iv p3, iv p4, iv (own_n nn), rv b1, rv b3, iv (((own_n nn) - (1 : Int32))), iv 1, iv (own_n kq13), iv (own_n kq14), iv 0, iv 0, iv (own_n kq24), iv (own_n kq25), iv 0, iv 0, iv (own_n kq31), iv (own_n kq32), iv 0, iv 0, iv (own_n kq38), iv (own_n kq39), iv 1, iv 1]) rfl ?_
            refine XS.iload X49.here hx rfl (hb hby at_360) rfl ?_
            show oS p e below T49 (mkF m 362 #[iv p0, iv p1, iv p2, iv p3, iv p4, iv (own_n nn), rv b1, rv b3, iv (((own_n nn) - (1 : Int32))), iv 1, iv (own_n kq13), iv (own_n kq14), iv 0, iv 0, iv (own_n kq24), iv (own_n kq25), iv 0, iv 0, iv (own_n kq31), iv (own_n kq32), iv 0, iv 0, iv (own_n kq38), iv (own_n kq39), iv 1, iv 1] [(.int 1)]) _
            exact kz)
          obtain ⟨fs, hr, hrun, hended, hW, hsame⟩ := X49.leave (v := some (.int 1)) (fun h => by rw [Bd.returns] at h; cases h)
          refine ⟨_, _, pre0 _ (S51 _ ?_), hrun, hended, _, _, rfl, ?_, ⟨_, rfl⟩, hW, hsame.mono (by decide) (by decide)⟩
          · exact retN X49 hx (t := .boolean) Bd.returns (by simp) (hb hby at_362) hr
          · show Qrm0s Z p0 p1 p2 p3 p4 nn h0 n0 _ T49.heap _
            rw [e49]
            exact ⟨rfl, N49⟩
      · have N33 := Fr.app N32 N33q
        have e33 : T33.heap = T33.heap := rfl
        have Zk33 : n0 ≤ T33.heap.size := Nat.le_trans Zk26 K33.1
        have Kk33 : Keep h0 T33.heap [] := Kk26.trans K33 (allS (Or.inr sz_b1) (allS (Or.inr sz_b2') all0))
        have f52 := (f27.keep K33 (ninS (Ne.symm ne_b1_b3) (ninS (Ne.symm ne_b2'_b3) nin0)))
        obtain ⟨_, T53, Lc53, X53, hQ53, st53⟩ := own_callS (W := 0) (y := mN5) X33 hx hZ hown (hw _ (own_w 30 rfl)) (hw _ (own_w 31 rfl)) (hw _ (own_w 16 rfl)) (hw _ (own_w 32 rfl)) (by decide) (rmRef1 l Z av0 hw [] b3 k3 own_n kq31 kq32 T33.heap n0 Zk33 f52 (Nat.lt_of_lt_of_le lq31 hnn) (Nat.lt_of_lt_of_le lq32 hnn) ge_b3 (fun q => rs33 ((RL2 _ lq31 _ lq32).mpr q))) (by decide) (by decide) (g := (mkF m 235 #[iv p0, iv p1, iv p2, iv p3, iv p4, iv (own_n nn), rv b1, rv b3, iv (own_n nn), iv 1, iv (own_n kq13), iv (own_n kq14), iv 0, iv 0, iv (own_n kq24), iv (own_n kq25), iv 0, iv 0, iv (own_n kq31), iv (own_n kq32), iv 1, .unset, .unset, .unset, .unset, .unset] [(.int (own_n kq32)), (.int (own_n kq31)), (.ref b3)])) rfl (by rw [hml]; rfl) (argsL := [(.ref b3), (.int (own_n kq31)), (.int (own_n kq32))]) (rest := []) (lenOf pd__III_Z rfl) rfl (hb hby at_235) rfl e33 (by decide : 3 + 0 ≤ _) (by decide : 10 + 0 ≤ _)
        obtain ⟨rfl, N53q, K53, B53⟩ := hQ53
        have N53 := Fr.app N33 N53q
        have e53 : T53.heap = T53.heap := rfl
        have Zk53 : n0 ≤ T53.heap.size := Nat.le_trans Zk33 K53.1
        have Kk53 : Keep h0 T53.heap [] := Kk33.trans K53 (allS (Or.inr sz_b3) all0)
        have RL53 := own_RL RL2 lq31 lq32
        have f54 := (C33.keep K53 (ninS ne_b1_b3 nin0))
        have f56 := ((f30.keep K33).keep K53)
        obtain ⟨_, T55, Lc55, X55, hQ55, st55⟩ := own_virtual (W := 0) (y := mN0) (z := mN0) X53 hx hZ hown (hw _ (own_w 33 rfl)) (hw _ (own_w 34 rfl)) (notFace_of_selects (args := #[]) (mvT hZ (hw _ (own_w 36 rfl)))) (hw _ (own_w 36 rfl)) (hw _ (own_w 35 rfl)) (hw _ (own_w 37 rfl)) (hw _ (own_w 2 rfl)) (by decide) (rmCount l Z av0 hw [] b1 ((own_n nn) - (1 : Int32)) T53.heap n0 Zk53 f54) (by decide) (by decide) f56 (g := (mkF m 265 #[iv p0, iv p1, iv p2, iv p3, iv p4, iv (own_n nn), rv b1, rv b3, iv (((own_n nn) - (1 : Int32))), iv 1, iv (own_n kq13), iv (own_n kq14), iv 0, iv 0, iv (own_n kq24), iv (own_n kq25), iv 0, iv 0, iv (own_n kq31), iv (own_n kq32), iv 1, iv 1, .unset, .unset, .unset, .unset] [(.ref b1)])) rfl (by rw [hml]; rfl) (argsL := []) (rest := []) (lenOf pd__I rfl) rfl (hb hby at_265) rfl e53 (by decide : 3 + 0 ≤ _) (by decide : 10 + 0 ≤ _)
        obtain ⟨rfl, N55q, hh55⟩ := hQ55
        have N55 := Fr.app N53 N55q
        have e55 : T55.heap = T53.heap := hh55
        obtain ⟨_, T57, Lc57, X57, hQ57, st57⟩ := own_callS (W := 0) (y := mN1) X55 hx hZ hown (hw _ (own_w 14 rfl)) (hw _ (own_w 15 rfl)) (hw _ (own_w 16 rfl)) (hw _ (own_w 17 rfl)) (by decide) (rmFirst l Z av0 hw [] p4 nn T53.heap n0 Zk53 hone hnn) (by decide) (by decide) (g := (mkF m 284 #[iv p0, iv p1, iv p2, iv p3, iv p4, iv (own_n nn), rv b1, rv b3, iv (((own_n nn) - (1 : Int32))), iv 1, iv (own_n kq13), iv (own_n kq14), iv 0, iv 0, iv (own_n kq24), iv (own_n kq25), iv 0, iv 0, iv (own_n kq31), iv (own_n kq32), iv 1, iv 1, .unset, .unset, .unset, .unset] [(.int (own_n nn)), (.int p4)])) rfl (by rw [hml]; rfl) (argsL := [(.int p4), (.int (own_n nn))]) (rest := []) (lenOf pd__II_I rfl) rfl (hb hby at_284) rfl e55 (by decide : 3 + 0 ≤ _) (by decide : 10 + 0 ≤ _)
        obtain ⟨kq57, lq57, rfl, N57q, hh57⟩ := hQ57
        have N57 := Fr.app N55 N57q
        have e57 : T57.heap = T53.heap := hh57
        obtain ⟨_, T58, Lc58, X58, hQ58, st58⟩ := own_callS (W := 0) (y := mN2) X57 hx hZ hown (hw _ (own_w 18 rfl)) (hw _ (own_w 19 rfl)) (hw _ (own_w 16 rfl)) (hw _ (own_w 20 rfl)) (by decide) (rmSecond l Z av0 hw [] p4 nn T53.heap n0 Zk53 hone hnn) (by decide) (by decide) (g := (mkF m 293 #[iv p0, iv p1, iv p2, iv p3, iv p4, iv (own_n nn), rv b1, rv b3, iv (((own_n nn) - (1 : Int32))), iv 1, iv (own_n kq13), iv (own_n kq14), iv 0, iv 0, iv (own_n kq24), iv (own_n kq25), iv 0, iv 0, iv (own_n kq31), iv (own_n kq32), iv 1, iv 1, iv (own_n kq57), .unset, .unset, .unset] [(.int (own_n nn)), (.int p4)])) rfl (by rw [hml]; rfl) (argsL := [(.int p4), (.int (own_n nn))]) (rest := []) (lenOf pd__II_I rfl) rfl (hb hby at_293) rfl e57 (by decide : 3 + 0 ≤ _) (by decide : 10 + 0 ≤ _)
        obtain ⟨kq58, lq58, rfl, N58q, hh58⟩ := hQ58
        have N58 := Fr.app N57 N58q
        have e58 : T58.heap = T53.heap := hh58
        have f59 := (P33.keep K53 (ninS ne_b1_b3 nin0))
        have f60 := (A33.keep K53 (ninS ne_b2'_b3 nin0))
        obtain ⟨_, T61, Lc61, X61, hQ61, st61⟩ := own_virtual (W := 0) (y := mN4) (z := mN4) X58 hx hZ hown (hw _ (own_w 21 rfl)) (hw _ (own_w 22 rfl)) (notFace_of_selects (args := #[]) (mvT hZ (hw _ (own_w 24 rfl)))) (hw _ (own_w 24 rfl)) (hw _ (own_w 23 rfl)) (hw _ (own_w 25 rfl)) (hw _ (own_w 2 rfl)) (by decide) (rmJoin l Z av0 hw [] b1 b2' k2' nn f33' (own_R (fun i => i) ((fun i => i) kq31) ((fun i => i) kq32)) d33' kq57 kq58 ((own_n nn) - (1 : Int32)) T53.heap n0 Zk53 hnn f56 f59 f54 f60 I33 lq57 lq58 ge_b1 ge_b2' ne_b1_b2') (by decide) (by decide) f56 (g := (mkF m 304 #[iv p0, iv p1, iv p2, iv p3, iv p4, iv (own_n nn), rv b1, rv b3, iv (((own_n nn) - (1 : Int32))), iv 1, iv (own_n kq13), iv (own_n kq14), iv 0, iv 0, iv (own_n kq24), iv (own_n kq25), iv 0, iv 0, iv (own_n kq31), iv (own_n kq32), iv 1, iv 1, iv (own_n kq57), iv (own_n kq58), .unset, .unset] [(.int (own_n kq58)), (.int (own_n kq57)), (.ref b1)])) rfl (by rw [hml]; rfl) (argsL := [(.int (own_n kq57)), (.int (own_n kq58))]) (rest := []) (lenOf pd__II_Z rfl) rfl (hb hby at_304) rfl e58 (by decide : 3 + 0 ≤ _) (by decide : 10 + 0 ≤ _)
        rcases hQ61 with ⟨rfl, N61q, rs61, K61, P61, C61, f61', A61, I61⟩ | ⟨rfl, N61q, rs61, K61, P61, C61, f61', d61', A61, I61⟩
        · have N61 := Fr.app N58 N61q
          have e61 : T61.heap = T61.heap := rfl
          have Zk61 : n0 ≤ T61.heap.size := Nat.le_trans Zk53 K61.1
          have Kk61 : Keep h0 T61.heap [] := Kk53.trans K61 (allS (Or.inr sz_b1) (allS (Or.inr sz_b2') all0))
          have f62 := (B53.keep K61 (ninS (Ne.symm ne_b1_b3) (ninS (Ne.symm ne_b2'_b3) nin0)))
          obtain ⟨_, T63, Lc63, X63, hQ63, st63⟩ := own_callS (W := 0) (y := mN5) X61 hx hZ hown (hw _ (own_w 30 rfl)) (hw _ (own_w 31 rfl)) (hw _ (own_w 16 rfl)) (hw _ (own_w 32 rfl)) (by decide) (rmRef0 l Z av0 hw [] b3 k3 (own_L own_n (own_n kq31) (own_n kq32)) kq57 kq58 T61.heap n0 Zk61 f62 (Nat.lt_of_lt_of_le lq57 hnn) (Nat.lt_of_lt_of_le lq58 hnn) ge_b3 ((RL53 _ lq57 _ lq58).mp rs61)) (by decide) (by decide) (g := (mkF m 315 #[iv p0, iv p1, iv p2, iv p3, iv p4, iv (own_n nn), rv b1, rv b3, iv (((own_n nn) - (1 : Int32))), iv 1, iv (own_n kq13), iv (own_n kq14), iv 0, iv 0, iv (own_n kq24), iv (own_n kq25), iv 0, iv 0, iv (own_n kq31), iv (own_n kq32), iv 1, iv 1, iv (own_n kq57), iv (own_n kq58), iv 0, .unset] [(.int (own_n kq58)), (.int (own_n kq57)), (.ref b3)])) rfl (by rw [hml]; rfl) (argsL := [(.ref b3), (.int (own_n kq57)), (.int (own_n kq58))]) (rest := []) (lenOf pd__III_Z rfl) rfl (hb hby at_315) rfl e61 (by decide : 3 + 0 ≤ _) (by decide : 10 + 0 ≤ _)
          obtain ⟨rfl, N63q, hh63⟩ := hQ63
          have N63 := Fr.app N61 N63q
          have e63 : T63.heap = T61.heap := hh63
          have f65 := (f56.keep K61)
          obtain ⟨_, T64, Lc64, X64, hQ64, st64⟩ := own_virtual (W := 0) (y := mN0) (z := mN0) X63 hx hZ hown (hw _ (own_w 33 rfl)) (hw _ (own_w 34 rfl)) (notFace_of_selects (args := #[]) (mvT hZ (hw _ (own_w 36 rfl)))) (hw _ (own_w 36 rfl)) (hw _ (own_w 35 rfl)) (hw _ (own_w 37 rfl)) (hw _ (own_w 2 rfl)) (by decide) (rmCount l Z av0 hw [] b1 ((own_n nn) - (1 : Int32)) T61.heap n0 Zk61 C61) (by decide) (by decide) f65 (g := (mkF m 345 #[iv p0, iv p1, iv p2, iv p3, iv p4, iv (own_n nn), rv b1, rv b3, iv (((own_n nn) - (1 : Int32))), iv 1, iv (own_n kq13), iv (own_n kq14), iv 0, iv 0, iv (own_n kq24), iv (own_n kq25), iv 0, iv 0, iv (own_n kq31), iv (own_n kq32), iv 1, iv 1, iv (own_n kq57), iv (own_n kq58), iv 0, iv 0] [(.ref b1)])) rfl (by rw [hml]; rfl) (argsL := []) (rest := []) (lenOf pd__I rfl) rfl (hb hby at_345) rfl e63 (by decide : 3 + 0 ≤ _) (by decide : 10 + 0 ≤ _)
          obtain ⟨rfl, N64q, hh64⟩ := hQ64
          have N64 := Fr.app N63 N64q
          have e64 : T64.heap = T61.heap := hh64
          have S66 : ∀ tz, oS p e below T64 (mkF m 362 #[iv p0, iv p1, iv p2, iv p3, iv p4, iv (own_n nn), rv b1, rv b3, iv (((own_n nn) - (1 : Int32))), iv 1, iv (own_n kq13), iv (own_n kq14), iv 0, iv 0, iv (own_n kq24), iv (own_n kq25), iv 0, iv 0, iv (own_n kq31), iv (own_n kq32), iv 1, iv 1, iv (own_n kq57), iv (own_n kq58), iv 0, iv 0] [(.int 1)]) tz → oS p e below s₁ (mkF m 0 #[iv p0, iv p1, iv p2, iv p3, iv p4, .unset, .unset, .unset, .unset, .unset, .unset, .unset, .unset, .unset, .unset, .unset, .unset, .unset, .unset, .unset, .unset, .unset, .unset, .unset, .unset, .unset] []) tz := fun tz kz => id (by
            show oS p e below s₁ (mkF m 0 #[iv p0, iv p1, iv p2, iv p3, iv p4, .unset, .unset, .unset, .unset, .unset, .unset, .unset, .unset, .unset, .unset, .unset, .unset, .unset, .unset, .unset, .unset, .unset, .unset, .unset, .unset, .unset] []) _
            refine XT.iconstV X0.here hx rfl (1 : Int32) (hb hby at_0) (by decide) ?_
            refine XS.iloadN X0.here hx rfl (hb hby at_1) rfl ?_
            refine XT.iconstV X0.here hx rfl (3 : Int32) (hb hby at_2) (by decide) ?_
            refine XS.iand X0.here hx rfl (hb hby at_3) rfl ?_
            refine XS.iadd X0.here hx rfl (hb hby at_4) rfl ?_
            show oS p e below s₁ (mkF m 5 #[iv p0, iv p1, iv p2, iv p3, iv p4, .unset, .unset, .unset, .unset, .unset, .unset, .unset, .unset, .unset, .unset, .unset, .unset, .unset, .unset, .unset, .unset, .unset, .unset, .unset, .unset, .unset] [(.int ((1 : Int32) + (p0 &&& (3 : Int32))))]) _
            rw [hn]
            show oS p e below s₁ (mkF m 5 #[iv p0, iv p1, iv p2, iv p3, iv p4, .unset, .unset, .unset, .unset, .unset, .unset, .unset, .unset, .unset, .unset, .unset, .unset, .unset, .unset, .unset, .unset, .unset, .unset, .unset, .unset, .unset] [(.int (own_n nn))]) _
            refine XS.istore X0.here hx rfl (hb hby at_5) rfl (l' := #[iv p0, iv p1, iv p2, iv p3, iv p4, iv (own_n nn), .unset, .unset, .unset, .unset, .unset, .unset, .unset, .unset, .unset, .unset, .unset, .unset, .unset, .unset, .unset, .unset, .unset, .unset, .unset, .unset]) rfl ?_
            refine st1 _ ?_
            show oS p e below T1 (mkF m 10 #[iv p0, iv p1, iv p2, iv p3, iv p4, iv (own_n nn), .unset, .unset, .unset, .unset, .unset, .unset, .unset, .unset, .unset, .unset, .unset, .unset, .unset, .unset, .unset, .unset, .unset, .unset, .unset, .unset] [(.ref b1)]) _
            refine XS.dup X1.here hx rfl (hb hby at_10) rfl rfl ?_
            refine XS.iload X1.here hx rfl (hb hby at_11) rfl ?_
            refine st2 _ ?_
            refine XS.astore X2.here hx rfl (hb hby at_16) rfl rfl (l' := #[iv p0, iv p1, iv p2, iv p3, iv p4, iv (own_n nn), rv b1, .unset, .unset, .unset, .unset, .unset, .unset, .unset, .unset, .unset, .unset, .unset, .unset, .unset, .unset, .unset, .unset, .unset, .unset, .unset]) rfl ?_
            refine XT.iconstV X2.here hx rfl (4 : Int32) (hb hby at_18) (by decide) ?_
            refine st3 _ ?_
            refine XS.dup X3.here hx rfl (hb hby at_21) rfl rfl ?_
            refine XT.iconstV X3.here hx rfl (0 : Int32) (hb hby at_22) (by decide) ?_
            show oS p e below T3 (mkF m 23 #[iv p0, iv p1, iv p2, iv p3, iv p4, iv (own_n nn), rv b1, .unset, .unset, .unset, .unset, .unset, .unset, .unset, .unset, .unset, .unset, .unset, .unset, .unset, .unset, .unset, .unset, .unset, .unset, .unset] [(.int 0), (.ref b3), (.ref b3)]) _
            refine XT.iconstV X3.here hx rfl (0 : Int32) (hb hby at_23) (by decide) ?_
            refine st6 _ ?_
            refine XS.dup X6.here hx rfl (hb hby at_25) rfl rfl ?_
            refine XT.iconstV X6.here hx rfl (1 : Int32) (hb hby at_26) (by decide) ?_
            refine XT.iconstV X6.here hx rfl (1 : Int32) (hb hby at_27) (by decide) ?_
            refine st8 _ ?_
            refine XS.dup X8.here hx rfl (hb hby at_29) rfl rfl ?_
            refine XT.iconstV X8.here hx rfl (2 : Int32) (hb hby at_30) (by decide) ?_
            show oS p e below T8 (mkF m 31 #[iv p0, iv p1, iv p2, iv p3, iv p4, iv (own_n nn), rv b1, .unset, .unset, .unset, .unset, .unset, .unset, .unset, .unset, .unset, .unset, .unset, .unset, .unset, .unset, .unset, .unset, .unset, .unset, .unset] [(.int 2), (.ref b3), (.ref b3)]) _
            refine XT.iconstV X8.here hx rfl (2 : Int32) (hb hby at_31) (by decide) ?_
            refine st10 _ ?_
            refine XS.dup X10.here hx rfl (hb hby at_33) rfl rfl ?_
            refine XT.iconstV X10.here hx rfl (3 : Int32) (hb hby at_34) (by decide) ?_
            refine XT.iconstV X10.here hx rfl (3 : Int32) (hb hby at_35) (by decide) ?_
            refine st12 _ ?_
            refine XS.astore X12.here hx rfl (hb hby at_37) rfl rfl (l' := #[iv p0, iv p1, iv p2, iv p3, iv p4, iv (own_n nn), rv b1, rv b3, .unset, .unset, .unset, .unset, .unset, .unset, .unset, .unset, .unset, .unset, .unset, .unset, .unset, .unset, .unset, .unset, .unset, .unset]) rfl ?_
            refine XS.iload X12.here hx rfl (hb hby at_39) rfl ?_
            show oS p e below T12 (mkF m 41 #[iv p0, iv p1, iv p2, iv p3, iv p4, iv (own_n nn), rv b1, rv b3, .unset, .unset, .unset, .unset, .unset, .unset, .unset, .unset, .unset, .unset, .unset, .unset, .unset, .unset, .unset, .unset, .unset, .unset] [(.int (own_n nn))]) _
            refine XS.istore X12.here hx rfl (hb hby at_41) rfl (l' := #[iv p0, iv p1, iv p2, iv p3, iv p4, iv (own_n nn), rv b1, rv b3, iv (own_n nn), .unset, .unset, .unset, .unset, .unset, .unset, .unset, .unset, .unset, .unset, .unset, .unset, .unset, .unset, .unset, .unset, .unset]) rfl ?_
            refine XT.iconstV X12.here hx rfl (1 : Int32) (hb hby at_43) (by decide) ?_
            refine XS.istore X12.here hx rfl (hb hby at_44) rfl (l' := #[iv p0, iv p1, iv p2, iv p3, iv p4, iv (own_n nn), rv b1, rv b3, iv (own_n nn), iv 1, .unset, .unset, .unset, .unset, .unset, .unset, .unset, .unset, .unset, .unset, .unset, .unset, .unset, .unset, .unset, .unset]) rfl ?_
            refine XS.iloadN X12.here hx rfl (hb hby at_46) rfl ?_
            refine XS.iload X12.here hx rfl (hb hby at_47) rfl ?_
            refine st13 _ ?_
            refine XS.istore X13.here hx rfl (hb hby at_52) rfl (l' := #[iv p0, iv p1, iv p2, iv p3, iv p4, iv (own_n nn), rv b1, rv b3, iv (own_n nn), iv 1, iv (own_n kq13), .unset, .unset, .unset, .unset, .unset, .unset, .unset, .unset, .unset, .unset, .unset, .unset, .unset, .unset, .unset]) rfl ?_
            refine XS.iloadN X13.here hx rfl (hb hby at_54) rfl ?_
            show oS p e below T13 (mkF m 55 #[iv p0, iv p1, iv p2, iv p3, iv p4, iv (own_n nn), rv b1, rv b3, iv (own_n nn), iv 1, iv (own_n kq13), .unset, .unset, .unset, .unset, .unset, .unset, .unset, .unset, .unset, .unset, .unset, .unset, .unset, .unset, .unset] [(.int p1)]) _
            refine XS.iload X13.here hx rfl (hb hby at_55) rfl ?_
            refine st14 _ ?_
            refine XS.istore X14.here hx rfl (hb hby at_60) rfl (l' := #[iv p0, iv p1, iv p2, iv p3, iv p4, iv (own_n nn), rv b1, rv b3, iv (own_n nn), iv 1, iv (own_n kq13), iv (own_n kq14), .unset, .unset, .unset, .unset, .unset, .unset, .unset, .unset, .unset, .unset, .unset, .unset, .unset, .unset]) rfl ?_
            refine XS.aload X14.here hx rfl (hb hby at_62) rfl rfl ?_
            refine XS.iload X14.here hx rfl (hb hby at_64) rfl ?_
            refine XS.iload X14.here hx rfl (hb hby at_66) rfl ?_
            refine st19 _ ?_
            refine XS.istore X19.here hx rfl (hb hby at_71) rfl (l' := #[iv p0, iv p1, iv p2, iv p3, iv p4, iv (own_n nn), rv b1, rv b3, iv (own_n nn), iv 1, iv (own_n kq13), iv (own_n kq14), iv 0, .unset, .unset, .unset, .unset, .unset, .unset, .unset, .unset, .unset, .unset, .unset, .unset, .unset]) rfl ?_
            show oS p e below T19 (mkF m 73 #[iv p0, iv p1, iv p2, iv p3, iv p4, iv (own_n nn), rv b1, rv b3, iv (own_n nn), iv 1, iv (own_n kq13), iv (own_n kq14), iv 0, .unset, .unset, .unset, .unset, .unset, .unset, .unset, .unset, .unset, .unset, .unset, .unset, .unset] []) _
            refine XS.aload X19.here hx rfl (hb hby at_73) rfl rfl ?_
            refine XS.iload X19.here hx rfl (hb hby at_75) rfl ?_
            refine XS.iload X19.here hx rfl (hb hby at_77) rfl ?_
            refine st21 _ ?_
            refine XS.istore X21.here hx rfl (hb hby at_82) rfl (l' := #[iv p0, iv p1, iv p2, iv p3, iv p4, iv (own_n nn), rv b1, rv b3, iv (own_n nn), iv 1, iv (own_n kq13), iv (own_n kq14), iv 0, iv 0, .unset, .unset, .unset, .unset, .unset, .unset, .unset, .unset, .unset, .unset, .unset, .unset]) rfl ?_
            refine XS.iload X21.here hx rfl (hb hby at_84) rfl ?_
            refine XS.ifYes X21.here hx rfl (pc0 := 86) (pc' := 95) rfl (hb hby at_86) rfl (XT.i0_eq_t (by decide)) (by decide) (by decide) ?_
            refine XS.iload X21.here hx rfl (hb hby at_95) rfl ?_
            show oS p e below T21 (mkF m 97 #[iv p0, iv p1, iv p2, iv p3, iv p4, iv (own_n nn), rv b1, rv b3, iv (own_n nn), iv 1, iv (own_n kq13), iv (own_n kq14), iv 0, iv 0, .unset, .unset, .unset, .unset, .unset, .unset, .unset, .unset, .unset, .unset, .unset, .unset] [(.int 1)]) _
            refine XS.ifNo X21.here hx rfl (hb hby at_97) rfl (XT.i0_eq_f (by decide)) ?_
            refine XS.iload X21.here hx rfl (hb hby at_100) rfl ?_
            refine XS.iload X21.here hx rfl (hb hby at_102) rfl ?_
            refine XS.icmpNo X21.here hx rfl (hb hby at_104) rfl (XT.ii_ne_f (by decide)) ?_
            refine XS.aload X21.here hx rfl (hb hby at_107) rfl rfl ?_
            refine st22 _ ?_
            refine XS.iload X22.here hx rfl (hb hby at_112) rfl ?_
            refine XS.icmpNo X22.here hx rfl (hb hby at_114) rfl (XT.ii_ne_f rfl) ?_
            show oS p e below T22 (mkF m 117 #[iv p0, iv p1, iv p2, iv p3, iv p4, iv (own_n nn), rv b1, rv b3, iv (own_n nn), iv 1, iv (own_n kq13), iv (own_n kq14), iv 0, iv 0, .unset, .unset, .unset, .unset, .unset, .unset, .unset, .unset, .unset, .unset, .unset, .unset] []) _
            refine XT.iconstV X22.here hx rfl (1 : Int32) (hb hby at_117) (by decide) ?_
            refine XS.goto X22.here hx rfl (pc0 := 118) (pc' := 122) rfl (hb hby at_118) (by decide) (by decide) ?_
            refine XS.istore X22.here hx rfl (hb hby at_122) rfl (l' := #[iv p0, iv p1, iv p2, iv p3, iv p4, iv (own_n nn), rv b1, rv b3, iv (own_n nn), iv 1, iv (own_n kq13), iv (own_n kq14), iv 0, iv 0, .unset, .unset, .unset, .unset, .unset, .unset, .unset, .unset, .unset, .unset, .unset, .unset]) rfl ?_
            refine XS.iloadN X22.here hx rfl (hb hby at_124) rfl ?_
            refine XS.iload X22.here hx rfl (hb hby at_125) rfl ?_
            refine st24 _ ?_
            refine XS.istore X24.here hx rfl (hb hby at_130) rfl (l' := #[iv p0, iv p1, iv p2, iv p3, iv p4, iv (own_n nn), rv b1, rv b3, iv (own_n nn), iv 1, iv (own_n kq13), iv (own_n kq14), iv 0, iv 0, iv (own_n kq24), .unset, .unset, .unset, .unset, .unset, .unset, .unset, .unset, .unset, .unset, .unset]) rfl ?_
            refine XS.iloadN X24.here hx rfl (hb hby at_132) rfl ?_
            show oS p e below T24 (mkF m 133 #[iv p0, iv p1, iv p2, iv p3, iv p4, iv (own_n nn), rv b1, rv b3, iv (own_n nn), iv 1, iv (own_n kq13), iv (own_n kq14), iv 0, iv 0, iv (own_n kq24), .unset, .unset, .unset, .unset, .unset, .unset, .unset, .unset, .unset, .unset, .unset] [(.int p2)]) _
            refine XS.iload X24.here hx rfl (hb hby at_133) rfl ?_
            refine st25 _ ?_
            refine XS.istore X25.here hx rfl (hb hby at_138) rfl (l' := #[iv p0, iv p1, iv p2, iv p3, iv p4, iv (own_n nn), rv b1, rv b3, iv (own_n nn), iv 1, iv (own_n kq13), iv (own_n kq14), iv 0, iv 0, iv (own_n kq24), iv (own_n kq25), .unset, .unset, .unset, .unset, .unset, .unset, .unset, .unset, .unset, .unset]) rfl ?_
            refine XS.aload X25.here hx rfl (hb hby at_140) rfl rfl ?_
            refine XS.iload X25.here hx rfl (hb hby at_142) rfl ?_
            refine XS.iload X25.here hx rfl (hb hby at_144) rfl ?_
            refine st26 _ ?_
            refine XS.istore X26.here hx rfl (hb hby at_149) rfl (l' := #[iv p0, iv p1, iv p2, iv p3, iv p4, iv (own_n nn), rv b1, rv b3, iv (own_n nn), iv 1, iv (own_n kq13), iv (own_n kq14), iv 0, iv 0, iv (own_n kq24), iv (own_n kq25), iv 0, .unset, .unset, .unset, .unset, .unset, .unset, .unset, .unset, .unset]) rfl ?_
            show oS p e below T26 (mkF m 151 #[iv p0, iv p1, iv p2, iv p3, iv p4, iv (own_n nn), rv b1, rv b3, iv (own_n nn), iv 1, iv (own_n kq13), iv (own_n kq14), iv 0, iv 0, iv (own_n kq24), iv (own_n kq25), iv 0, .unset, .unset, .unset, .unset, .unset, .unset, .unset, .unset, .unset] []) _
            refine XS.aload X26.here hx rfl (hb hby at_151) rfl rfl ?_
            refine XS.iload X26.here hx rfl (hb hby at_153) rfl ?_
            refine XS.iload X26.here hx rfl (hb hby at_155) rfl ?_
            refine st28 _ ?_
            refine XS.istore X28.here hx rfl (hb hby at_160) rfl (l' := #[iv p0, iv p1, iv p2, iv p3, iv p4, iv (own_n nn), rv b1, rv b3, iv (own_n nn), iv 1, iv (own_n kq13), iv (own_n kq14), iv 0, iv 0, iv (own_n kq24), iv (own_n kq25), iv 0, iv 0, .unset, .unset, .unset, .unset, .unset, .unset, .unset, .unset]) rfl ?_
            refine XS.iload X28.here hx rfl (hb hby at_162) rfl ?_
            refine XS.ifYes X28.here hx rfl (pc0 := 164) (pc' := 173) rfl (hb hby at_164) rfl (XT.i0_eq_t (by decide)) (by decide) (by decide) ?_
            refine XS.iload X28.here hx rfl (hb hby at_173) rfl ?_
            show oS p e below T28 (mkF m 175 #[iv p0, iv p1, iv p2, iv p3, iv p4, iv (own_n nn), rv b1, rv b3, iv (own_n nn), iv 1, iv (own_n kq13), iv (own_n kq14), iv 0, iv 0, iv (own_n kq24), iv (own_n kq25), iv 0, iv 0, .unset, .unset, .unset, .unset, .unset, .unset, .unset, .unset] [(.int 1)]) _
            refine XS.ifNo X28.here hx rfl (hb hby at_175) rfl (XT.i0_eq_f (by decide)) ?_
            refine XS.iload X28.here hx rfl (hb hby at_178) rfl ?_
            refine XS.iload X28.here hx rfl (hb hby at_180) rfl ?_
            refine XS.icmpNo X28.here hx rfl (hb hby at_182) rfl (XT.ii_ne_f (by decide)) ?_
            refine XS.aload X28.here hx rfl (hb hby at_185) rfl rfl ?_
            refine st29 _ ?_
            refine XS.iload X29.here hx rfl (hb hby at_190) rfl ?_
            refine XS.icmpNo X29.here hx rfl (hb hby at_192) rfl (XT.ii_ne_f rfl) ?_
            show oS p e below T29 (mkF m 195 #[iv p0, iv p1, iv p2, iv p3, iv p4, iv (own_n nn), rv b1, rv b3, iv (own_n nn), iv 1, iv (own_n kq13), iv (own_n kq14), iv 0, iv 0, iv (own_n kq24), iv (own_n kq25), iv 0, iv 0, .unset, .unset, .unset, .unset, .unset, .unset, .unset, .unset] []) _
            refine XT.iconstV X29.here hx rfl (1 : Int32) (hb hby at_195) (by decide) ?_
            refine XS.goto X29.here hx rfl (pc0 := 196) (pc' := 200) rfl (hb hby at_196) (by decide) (by decide) ?_
            refine XS.istore X29.here hx rfl (hb hby at_200) rfl (l' := #[iv p0, iv p1, iv p2, iv p3, iv p4, iv (own_n nn), rv b1, rv b3, iv (own_n nn), iv 1, iv (own_n kq13), iv (own_n kq14), iv 0, iv 0, iv (own_n kq24), iv (own_n kq25), iv 0, iv 0, .unset, .unset, .unset, .unset, .unset, .unset, .unset, .unset]) rfl ?_
            refine XS.iloadN X29.here hx rfl (hb hby at_202) rfl ?_
            refine XS.iload X29.here hx rfl (hb hby at_203) rfl ?_
            refine st31 _ ?_
            refine XS.istore X31.here hx rfl (hb hby at_208) rfl (l' := #[iv p0, iv p1, iv p2, iv p3, iv p4, iv (own_n nn), rv b1, rv b3, iv (own_n nn), iv 1, iv (own_n kq13), iv (own_n kq14), iv 0, iv 0, iv (own_n kq24), iv (own_n kq25), iv 0, iv 0, iv (own_n kq31), .unset, .unset, .unset, .unset, .unset, .unset, .unset]) rfl ?_
            refine XS.iloadN X31.here hx rfl (hb hby at_210) rfl ?_
            show oS p e below T31 (mkF m 211 #[iv p0, iv p1, iv p2, iv p3, iv p4, iv (own_n nn), rv b1, rv b3, iv (own_n nn), iv 1, iv (own_n kq13), iv (own_n kq14), iv 0, iv 0, iv (own_n kq24), iv (own_n kq25), iv 0, iv 0, iv (own_n kq31), .unset, .unset, .unset, .unset, .unset, .unset, .unset] [(.int p3)]) _
            refine XS.iload X31.here hx rfl (hb hby at_211) rfl ?_
            refine st32 _ ?_
            refine XS.istore X32.here hx rfl (hb hby at_216) rfl (l' := #[iv p0, iv p1, iv p2, iv p3, iv p4, iv (own_n nn), rv b1, rv b3, iv (own_n nn), iv 1, iv (own_n kq13), iv (own_n kq14), iv 0, iv 0, iv (own_n kq24), iv (own_n kq25), iv 0, iv 0, iv (own_n kq31), iv (own_n kq32), .unset, .unset, .unset, .unset, .unset, .unset]) rfl ?_
            refine XS.aload X32.here hx rfl (hb hby at_218) rfl rfl ?_
            refine XS.iload X32.here hx rfl (hb hby at_220) rfl ?_
            refine XS.iload X32.here hx rfl (hb hby at_222) rfl ?_
            refine st33 _ ?_
            refine XS.istore X33.here hx rfl (hb hby at_227) rfl (l' := #[iv p0, iv p1, iv p2, iv p3, iv p4, iv (own_n nn), rv b1, rv b3, iv (own_n nn), iv 1, iv (own_n kq13), iv (own_n kq14), iv 0, iv 0, iv (own_n kq24), iv (own_n kq25), iv 0, iv 0, iv (own_n kq31), iv (own_n kq32), iv 1, .unset, .unset, .unset, .unset, .unset]) rfl ?_
            show oS p e below T33 (mkF m 229 #[iv p0, iv p1, iv p2, iv p3, iv p4, iv (own_n nn), rv b1, rv b3, iv (own_n nn), iv 1, iv (own_n kq13), iv (own_n kq14), iv 0, iv 0, iv (own_n kq24), iv (own_n kq25), iv 0, iv 0, iv (own_n kq31), iv (own_n kq32), iv 1, .unset, .unset, .unset, .unset, .unset] []) _
            refine XS.aload X33.here hx rfl (hb hby at_229) rfl rfl ?_
            refine XS.iload X33.here hx rfl (hb hby at_231) rfl ?_
            refine XS.iload X33.here hx rfl (hb hby at_233) rfl ?_
            refine st53 _ ?_
            refine XS.istore X53.here hx rfl (hb hby at_238) rfl (l' := #[iv p0, iv p1, iv p2, iv p3, iv p4, iv (own_n nn), rv b1, rv b3, iv (own_n nn), iv 1, iv (own_n kq13), iv (own_n kq14), iv 0, iv 0, iv (own_n kq24), iv (own_n kq25), iv 0, iv 0, iv (own_n kq31), iv (own_n kq32), iv 1, iv 1, .unset, .unset, .unset, .unset]) rfl ?_
            refine XS.iload X53.here hx rfl (hb hby at_240) rfl ?_
            refine XS.ifNo X53.here hx rfl (hb hby at_242) rfl (XT.i0_eq_f (by decide)) ?_
            refine XS.iload X53.here hx rfl (hb hby at_245) rfl ?_
            show oS p e below T53 (mkF m 247 #[iv p0, iv p1, iv p2, iv p3, iv p4, iv (own_n nn), rv b1, rv b3, iv (own_n nn), iv 1, iv (own_n kq13), iv (own_n kq14), iv 0, iv 0, iv (own_n kq24), iv (own_n kq25), iv 0, iv 0, iv (own_n kq31), iv (own_n kq32), iv 1, iv 1, .unset, .unset, .unset, .unset] [(.int (own_n nn))]) _
            refine XT.iconstV X53.here hx rfl (1 : Int32) (hb hby at_247) (by decide) ?_
            refine XS.isub X53.here hx rfl (hb hby at_248) rfl ?_
            refine XS.istore X53.here hx rfl (hb hby at_249) rfl (l' := #[iv p0, iv p1, iv p2, iv p3, iv p4, iv (own_n nn), rv b1, rv b3, iv (((own_n nn) - (1 : Int32))), iv 1, iv (own_n kq13), iv (own_n kq14), iv 0, iv 0, iv (own_n kq24), iv (own_n kq25), iv 0, iv 0, iv (own_n kq31), iv (own_n kq32), iv 1, iv 1, .unset, .unset, .unset, .unset]) rfl ?_
            refine XS.iload X53.here hx rfl (hb hby at_251) rfl ?_
            refine XS.ifNo X53.here hx rfl (hb hby at_253) rfl (XT.i0_eq_f (by decide)) ?_
            refine XS.iload X53.here hx rfl (hb hby at_256) rfl ?_
            refine XS.iload X53.here hx rfl (hb hby at_258) rfl ?_
            refine XS.icmpNo X53.here hx rfl (hb hby at_260) rfl (XT.ii_ne_f (by decide)) ?_
            show oS p e below T53 (mkF m 263 #[iv p0, iv p1, iv p2, iv p3, iv p4, iv (own_n nn), rv b1, rv b3, iv (((own_n nn) - (1 : Int32))), iv 1, iv (own_n kq13), iv (own_n kq14), iv 0, iv 0, iv (own_n kq24), iv (own_n kq25), iv 0, iv 0, iv (own_n kq31), iv (own_n kq32), iv 1, iv 1, .unset, .unset, .unset, .unset] []) _
            refine XS.aload X53.here hx rfl (hb hby at_263) rfl rfl ?_
            refine st55 _ ?_
            refine XS.iload X55.here hx rfl (hb hby at_268) rfl ?_
            refine XS.icmpNo X55.here hx rfl (hb hby at_270) rfl (XT.ii_ne_f rfl) ?_
            refine XT.iconstV X55.here hx rfl (1 : Int32) (hb hby at_273) (by decide) ?_
            refine XS.goto X55.here hx rfl (pc0 := 274) (pc' := 278) rfl (hb hby at_274) (by decide) (by decide) ?_
            refine XS.istore X55.here hx rfl (hb hby at_278) rfl (l' := #[iv p0, iv p1, iv p2, iv p3, iv p4, iv (own_n nn), rv b1, rv b3, iv (((own_n nn) - (1 : Int32))), iv 1, iv (own_n kq13), iv (own_n kq14), iv 0, iv 0, iv (own_n kq24), iv (own_n kq25), iv 0, iv 0, iv (own_n kq31), iv (own_n kq32), iv 1, iv 1, .unset, .unset, .unset, .unset]) rfl ?_
            refine XS.iload X55.here hx rfl (hb hby at_280) rfl ?_
            show oS p e below T55 (mkF m 282 #[iv p0, iv p1, iv p2, iv p3, iv p4, iv (own_n nn), rv b1, rv b3, iv (((own_n nn) - (1 : Int32))), iv 1, iv (own_n kq13), iv (own_n kq14), iv 0, iv 0, iv (own_n kq24), iv (own_n kq25), iv 0, iv 0, iv (own_n kq31), iv (own_n kq32), iv 1, iv 1, .unset, .unset, .unset, .unset] [(.int p4)]) _
            refine XS.iload X55.here hx rfl (hb hby at_282) rfl ?_
            refine st57 _ ?_
            refine XS.istore X57.here hx rfl (hb hby at_287) rfl (l' := #[iv p0, iv p1, iv p2, iv p3, iv p4, iv (own_n nn), rv b1, rv b3, iv (((own_n nn) - (1 : Int32))), iv 1, iv (own_n kq13), iv (own_n kq14), iv 0, iv 0, iv (own_n kq24), iv (own_n kq25), iv 0, iv 0, iv (own_n kq31), iv (own_n kq32), iv 1, iv 1, iv (own_n kq57), .unset, .unset, .unset]) rfl ?_
            refine XS.iload X57.here hx rfl (hb hby at_289) rfl ?_
            refine XS.iload X57.here hx rfl (hb hby at_291) rfl ?_
            refine st58 _ ?_
            refine XS.istore X58.here hx rfl (hb hby at_296) rfl (l' := #[iv p0, iv p1, iv p2, iv p3, iv p4, iv (own_n nn), rv b1, rv b3, iv (((own_n nn) - (1 : Int32))), iv 1, iv (own_n kq13), iv (own_n kq14), iv 0, iv 0, iv (own_n kq24), iv (own_n kq25), iv 0, iv 0, iv (own_n kq31), iv (own_n kq32), iv 1, iv 1, iv (own_n kq57), iv (own_n kq58), .unset, .unset]) rfl ?_
            refine XS.aload X58.here hx rfl (hb hby at_298) rfl rfl ?_
            show oS p e below T58 (mkF m 300 #[iv p0, iv p1, iv p2, iv p3, iv p4, iv (own_n nn), rv b1, rv b3, iv (((own_n nn) - (1 : Int32))), iv 1, iv (own_n kq13), iv (own_n kq14), iv 0, iv 0, iv (own_n kq24), iv (own_n kq25), iv 0, iv 0, iv (own_n kq31), iv (own_n kq32), iv 1, iv 1, iv (own_n kq57), iv (own_n kq58), .unset, .unset] [(.ref b1)]) _
            refine XS.iload X58.here hx rfl (hb hby at_300) rfl ?_
            refine XS.iload X58.here hx rfl (hb hby at_302) rfl ?_
            refine st61 _ ?_
            refine XS.istore X61.here hx rfl (hb hby at_307) rfl (l' := #[iv p0, iv p1, iv p2, iv p3, iv p4, iv (own_n nn), rv b1, rv b3, iv (((own_n nn) - (1 : Int32))), iv 1, iv (own_n kq13), iv (own_n kq14), iv 0, iv 0, iv (own_n kq24), iv (own_n kq25), iv 0, iv 0, iv (own_n kq31), iv (own_n kq32), iv 1, iv 1, iv (own_n kq57), iv (own_n kq58), iv 0, .unset]) rfl ?_
            refine XS.aload X61.here hx rfl (hb hby at_309) rfl rfl ?_
            refine XS.iload X61.here hx rfl (hb hby at_311) rfl ?_
            refine XS.iload X61.here hx rfl (hb hby at_313) rfl ?_
            refine st63 _ ?_
            show oS p e below T63 (mkF m 318 #[iv p0, iv p1, iv p2, iv p3, iv p4, iv (own_n nn), rv b1, rv b3, iv (((own_n nn) - (1 : Int32))), iv 1, iv (own_n kq13), iv (own_n kq14), iv 0, iv 0, iv (own_n kq24), iv (own_n kq25), iv 0, iv 0, iv (own_n kq31), iv (own_n kq32), iv 1, iv 1, iv (own_n kq57), iv (own_n kq58), iv 0, .unset] [(.int 0)]) _
            refine XS.istore X63.here hx rfl (hb hby at_318) rfl (l' := #[iv p0, iv p1, iv p2, iv p3, iv p4, iv (own_n nn), rv b1, rv b3, iv (((own_n nn) - (1 : Int32))), iv 1, iv (own_n kq13), iv (own_n kq14), iv 0, iv 0, iv (own_n kq24), iv (own_n kq25), iv 0, iv 0, iv (own_n kq31), iv (own_n kq32), iv 1, iv 1, iv (own_n kq57), iv (own_n kq58), iv 0, iv 0]) rfl ?_
            refine XS.iload X63.here hx rfl (hb hby at_320) rfl ?_
            refine XS.ifYes X63.here hx rfl (pc0 := 322) (pc' := 331) rfl (hb hby at_322) rfl (XT.i0_eq_t (by decide)) (by decide) (by decide) ?_
            refine XS.iload X63.here hx rfl (hb hby at_331) rfl ?_
            refine XS.ifNo X63.here hx rfl (hb hby at_333) rfl (XT.i0_eq_f (by decide)) ?_
            refine XS.iload X63.here hx rfl (hb hby at_336) rfl ?_
            refine XS.iload X63.here hx rfl (hb hby at_338) rfl ?_
            refine XS.icmpNo X63.here hx rfl (hb hby at_340) rfl (XT.ii_ne_f (by decide)) ?_
            show oS p e below T63 (mkF m 343 #[iv p0, iv p1, iv p2, iv p3, iv p4, iv (own_n nn), rv b1, rv b3, iv (((own_n nn) - (1 : Int32))), iv 1, iv (own_n kq13), iv (own_n kq14), iv 0, iv 0, iv (own_n kq24), iv (own_n kq25), iv 0, iv 0, iv (own_n kq31), iv (own_n kq32), iv 1, iv 1, iv (own_n kq57), iv (own_n kq58), iv 0, iv 0] []) _
            refine XS.aload X63.here hx rfl (hb hby at_343) rfl rfl ?_
            refine st64 _ ?_
            refine XS.iload X64.here hx rfl (hb hby at_348) rfl ?_
            refine XS.icmpNo X64.here hx rfl (hb hby at_350) rfl (XT.ii_ne_f rfl) ?_
            refine XT.iconstV X64.here hx rfl (1 : Int32) (hb hby at_353) (by decide) ?_
            refine XS.goto X64.here hx rfl (pc0 := 354) (pc' := 358) rfl (hb hby at_354) (by decide) (by decide) ?_
            refine XS.istore X64.here hx rfl (hb hby at_358) rfl (l' := #[iv p0, iv p1, iv p2, iv p3, iv p4, iv (own_n nn), rv b1, rv b3, iv (((own_n nn) - (1 : Int32))), iv 1, iv (own_n kq13), iv (own_n kq14), iv 0, iv 0, iv (own_n kq24), iv (own_n kq25), iv 0, iv 0, iv (own_n kq31), iv (own_n kq32), iv 1, iv 1, iv (own_n kq57), iv (own_n kq58), iv 0, iv 0]) rfl ?_
            refine XS.iload X64.here hx rfl (hb hby at_360) rfl ?_
            show oS p e below T64 (mkF m 362 #[iv p0, iv p1, iv p2, iv p3, iv p4, iv (own_n nn), rv b1, rv b3, iv (((own_n nn) - (1 : Int32))), iv 1, iv (own_n kq13), iv (own_n kq14), iv 0, iv 0, iv (own_n kq24), iv (own_n kq25), iv 0, iv 0, iv (own_n kq31), iv (own_n kq32), iv 1, iv 1, iv (own_n kq57), iv (own_n kq58), iv 0, iv 0] [(.int 1)]) _
            exact kz)
          obtain ⟨fs, hr, hrun, hended, hW, hsame⟩ := X64.leave (v := some (.int 1)) (fun h => by rw [Bd.returns] at h; cases h)
          refine ⟨_, _, pre0 _ (S66 _ ?_), hrun, hended, _, _, rfl, ?_, ⟨_, rfl⟩, hW, hsame.mono (by decide) (by decide)⟩
          · exact retN X64 hx (t := .boolean) Bd.returns (by simp) (hb hby at_362) hr
          · show Qrm0s Z p0 p1 p2 p3 p4 nn h0 n0 _ T64.heap _
            rw [e64]
            exact ⟨rfl, N64⟩
        · have N61 := Fr.app N58 N61q
          have e61 : T61.heap = T61.heap := rfl
          have Zk61 : n0 ≤ T61.heap.size := Nat.le_trans Zk53 K61.1
          have Kk61 : Keep h0 T61.heap [] := Kk53.trans K61 (allS (Or.inr sz_b1) (allS (Or.inr sz_b2') all0))
          have f67 := (B53.keep K61 (ninS (Ne.symm ne_b1_b3) (ninS (Ne.symm ne_b2'_b3) nin0)))
          obtain ⟨_, T68, Lc68, X68, hQ68, st68⟩ := own_callS (W := 0) (y := mN5) X61 hx hZ hown (hw _ (own_w 30 rfl)) (hw _ (own_w 31 rfl)) (hw _ (own_w 16 rfl)) (hw _ (own_w 32 rfl)) (by decide) (rmRef1 l Z av0 hw [] b3 k3 (own_L own_n (own_n kq31) (own_n kq32)) kq57 kq58 T61.heap n0 Zk61 f67 (Nat.lt_of_lt_of_le lq57 hnn) (Nat.lt_of_lt_of_le lq58 hnn) ge_b3 (fun q => rs61 ((RL53 _ lq57 _ lq58).mpr q))) (by decide) (by decide) (g := (mkF m 315 #[iv p0, iv p1, iv p2, iv p3, iv p4, iv (own_n nn), rv b1, rv b3, iv (((own_n nn) - (1 : Int32))), iv 1, iv (own_n kq13), iv (own_n kq14), iv 0, iv 0, iv (own_n kq24), iv (own_n kq25), iv 0, iv 0, iv (own_n kq31), iv (own_n kq32), iv 1, iv 1, iv (own_n kq57), iv (own_n kq58), iv 1, .unset] [(.int (own_n kq58)), (.int (own_n kq57)), (.ref b3)])) rfl (by rw [hml]; rfl) (argsL := [(.ref b3), (.int (own_n kq57)), (.int (own_n kq58))]) (rest := []) (lenOf pd__III_Z rfl) rfl (hb hby at_315) rfl e61 (by decide : 3 + 0 ≤ _) (by decide : 10 + 0 ≤ _)
          obtain ⟨rfl, N68q, K68, B68⟩ := hQ68
          have N68 := Fr.app N61 N68q
          have e68 : T68.heap = T68.heap := rfl
          have Zk68 : n0 ≤ T68.heap.size := Nat.le_trans Zk61 K68.1
          have Kk68 : Keep h0 T68.heap [] := Kk61.trans K68 (allS (Or.inr sz_b3) all0)
          have RL68 := own_RL RL53 lq57 lq58
          have f69 := (C61.keep K68 (ninS ne_b1_b3 nin0))
          have f71 := ((f56.keep K61).keep K68)
          obtain ⟨_, T70, Lc70, X70, hQ70, st70⟩ := own_virtual (W := 0) (y := mN0) (z := mN0) X68 hx hZ hown (hw _ (own_w 33 rfl)) (hw _ (own_w 34 rfl)) (notFace_of_selects (args := #[]) (mvT hZ (hw _ (own_w 36 rfl)))) (hw _ (own_w 36 rfl)) (hw _ (own_w 35 rfl)) (hw _ (own_w 37 rfl)) (hw _ (own_w 2 rfl)) (by decide) (rmCount l Z av0 hw [] b1 (((own_n nn) - (1 : Int32)) - (1 : Int32)) T68.heap n0 Zk68 f69) (by decide) (by decide) f71 (g := (mkF m 345 #[iv p0, iv p1, iv p2, iv p3, iv p4, iv (own_n nn), rv b1, rv b3, iv ((((own_n nn) - (1 : Int32)) - (1 : Int32))), iv 1, iv (own_n kq13), iv (own_n kq14), iv 0, iv 0, iv (own_n kq24), iv (own_n kq25), iv 0, iv 0, iv (own_n kq31), iv (own_n kq32), iv 1, iv 1, iv (own_n kq57), iv (own_n kq58), iv 1, iv 1] [(.ref b1)])) rfl (by rw [hml]; rfl) (argsL := []) (rest := []) (lenOf pd__I rfl) rfl (hb hby at_345) rfl e68 (by decide : 3 + 0 ≤ _) (by decide : 10 + 0 ≤ _)
          obtain ⟨rfl, N70q, hh70⟩ := hQ70
          have N70 := Fr.app N68 N70q
          have e70 : T70.heap = T68.heap := hh70
          have S72 : ∀ tz, oS p e below T70 (mkF m 362 #[iv p0, iv p1, iv p2, iv p3, iv p4, iv (own_n nn), rv b1, rv b3, iv ((((own_n nn) - (1 : Int32)) - (1 : Int32))), iv 1, iv (own_n kq13), iv (own_n kq14), iv 0, iv 0, iv (own_n kq24), iv (own_n kq25), iv 0, iv 0, iv (own_n kq31), iv (own_n kq32), iv 1, iv 1, iv (own_n kq57), iv (own_n kq58), iv 1, iv 1] [(.int 1)]) tz → oS p e below s₁ (mkF m 0 #[iv p0, iv p1, iv p2, iv p3, iv p4, .unset, .unset, .unset, .unset, .unset, .unset, .unset, .unset, .unset, .unset, .unset, .unset, .unset, .unset, .unset, .unset, .unset, .unset, .unset, .unset, .unset] []) tz := fun tz kz => id (by
            show oS p e below s₁ (mkF m 0 #[iv p0, iv p1, iv p2, iv p3, iv p4, .unset, .unset, .unset, .unset, .unset, .unset, .unset, .unset, .unset, .unset, .unset, .unset, .unset, .unset, .unset, .unset, .unset, .unset, .unset, .unset, .unset] []) _
            refine XT.iconstV X0.here hx rfl (1 : Int32) (hb hby at_0) (by decide) ?_
            refine XS.iloadN X0.here hx rfl (hb hby at_1) rfl ?_
            refine XT.iconstV X0.here hx rfl (3 : Int32) (hb hby at_2) (by decide) ?_
            refine XS.iand X0.here hx rfl (hb hby at_3) rfl ?_
            refine XS.iadd X0.here hx rfl (hb hby at_4) rfl ?_
            show oS p e below s₁ (mkF m 5 #[iv p0, iv p1, iv p2, iv p3, iv p4, .unset, .unset, .unset, .unset, .unset, .unset, .unset, .unset, .unset, .unset, .unset, .unset, .unset, .unset, .unset, .unset, .unset, .unset, .unset, .unset, .unset] [(.int ((1 : Int32) + (p0 &&& (3 : Int32))))]) _
            rw [hn]
            show oS p e below s₁ (mkF m 5 #[iv p0, iv p1, iv p2, iv p3, iv p4, .unset, .unset, .unset, .unset, .unset, .unset, .unset, .unset, .unset, .unset, .unset, .unset, .unset, .unset, .unset, .unset, .unset, .unset, .unset, .unset, .unset] [(.int (own_n nn))]) _
            refine XS.istore X0.here hx rfl (hb hby at_5) rfl (l' := #[iv p0, iv p1, iv p2, iv p3, iv p4, iv (own_n nn), .unset, .unset, .unset, .unset, .unset, .unset, .unset, .unset, .unset, .unset, .unset, .unset, .unset, .unset, .unset, .unset, .unset, .unset, .unset, .unset]) rfl ?_
            refine st1 _ ?_
            show oS p e below T1 (mkF m 10 #[iv p0, iv p1, iv p2, iv p3, iv p4, iv (own_n nn), .unset, .unset, .unset, .unset, .unset, .unset, .unset, .unset, .unset, .unset, .unset, .unset, .unset, .unset, .unset, .unset, .unset, .unset, .unset, .unset] [(.ref b1)]) _
            refine XS.dup X1.here hx rfl (hb hby at_10) rfl rfl ?_
            refine XS.iload X1.here hx rfl (hb hby at_11) rfl ?_
            refine st2 _ ?_
            refine XS.astore X2.here hx rfl (hb hby at_16) rfl rfl (l' := #[iv p0, iv p1, iv p2, iv p3, iv p4, iv (own_n nn), rv b1, .unset, .unset, .unset, .unset, .unset, .unset, .unset, .unset, .unset, .unset, .unset, .unset, .unset, .unset, .unset, .unset, .unset, .unset, .unset]) rfl ?_
            refine XT.iconstV X2.here hx rfl (4 : Int32) (hb hby at_18) (by decide) ?_
            refine st3 _ ?_
            refine XS.dup X3.here hx rfl (hb hby at_21) rfl rfl ?_
            refine XT.iconstV X3.here hx rfl (0 : Int32) (hb hby at_22) (by decide) ?_
            show oS p e below T3 (mkF m 23 #[iv p0, iv p1, iv p2, iv p3, iv p4, iv (own_n nn), rv b1, .unset, .unset, .unset, .unset, .unset, .unset, .unset, .unset, .unset, .unset, .unset, .unset, .unset, .unset, .unset, .unset, .unset, .unset, .unset] [(.int 0), (.ref b3), (.ref b3)]) _
            refine XT.iconstV X3.here hx rfl (0 : Int32) (hb hby at_23) (by decide) ?_
            refine st6 _ ?_
            refine XS.dup X6.here hx rfl (hb hby at_25) rfl rfl ?_
            refine XT.iconstV X6.here hx rfl (1 : Int32) (hb hby at_26) (by decide) ?_
            refine XT.iconstV X6.here hx rfl (1 : Int32) (hb hby at_27) (by decide) ?_
            refine st8 _ ?_
            refine XS.dup X8.here hx rfl (hb hby at_29) rfl rfl ?_
            refine XT.iconstV X8.here hx rfl (2 : Int32) (hb hby at_30) (by decide) ?_
            show oS p e below T8 (mkF m 31 #[iv p0, iv p1, iv p2, iv p3, iv p4, iv (own_n nn), rv b1, .unset, .unset, .unset, .unset, .unset, .unset, .unset, .unset, .unset, .unset, .unset, .unset, .unset, .unset, .unset, .unset, .unset, .unset, .unset] [(.int 2), (.ref b3), (.ref b3)]) _
            refine XT.iconstV X8.here hx rfl (2 : Int32) (hb hby at_31) (by decide) ?_
            refine st10 _ ?_
            refine XS.dup X10.here hx rfl (hb hby at_33) rfl rfl ?_
            refine XT.iconstV X10.here hx rfl (3 : Int32) (hb hby at_34) (by decide) ?_
            refine XT.iconstV X10.here hx rfl (3 : Int32) (hb hby at_35) (by decide) ?_
            refine st12 _ ?_
            refine XS.astore X12.here hx rfl (hb hby at_37) rfl rfl (l' := #[iv p0, iv p1, iv p2, iv p3, iv p4, iv (own_n nn), rv b1, rv b3, .unset, .unset, .unset, .unset, .unset, .unset, .unset, .unset, .unset, .unset, .unset, .unset, .unset, .unset, .unset, .unset, .unset, .unset]) rfl ?_
            refine XS.iload X12.here hx rfl (hb hby at_39) rfl ?_
            show oS p e below T12 (mkF m 41 #[iv p0, iv p1, iv p2, iv p3, iv p4, iv (own_n nn), rv b1, rv b3, .unset, .unset, .unset, .unset, .unset, .unset, .unset, .unset, .unset, .unset, .unset, .unset, .unset, .unset, .unset, .unset, .unset, .unset] [(.int (own_n nn))]) _
            refine XS.istore X12.here hx rfl (hb hby at_41) rfl (l' := #[iv p0, iv p1, iv p2, iv p3, iv p4, iv (own_n nn), rv b1, rv b3, iv (own_n nn), .unset, .unset, .unset, .unset, .unset, .unset, .unset, .unset, .unset, .unset, .unset, .unset, .unset, .unset, .unset, .unset, .unset]) rfl ?_
            refine XT.iconstV X12.here hx rfl (1 : Int32) (hb hby at_43) (by decide) ?_
            refine XS.istore X12.here hx rfl (hb hby at_44) rfl (l' := #[iv p0, iv p1, iv p2, iv p3, iv p4, iv (own_n nn), rv b1, rv b3, iv (own_n nn), iv 1, .unset, .unset, .unset, .unset, .unset, .unset, .unset, .unset, .unset, .unset, .unset, .unset, .unset, .unset, .unset, .unset]) rfl ?_
            refine XS.iloadN X12.here hx rfl (hb hby at_46) rfl ?_
            refine XS.iload X12.here hx rfl (hb hby at_47) rfl ?_
            refine st13 _ ?_
            refine XS.istore X13.here hx rfl (hb hby at_52) rfl (l' := #[iv p0, iv p1, iv p2, iv p3, iv p4, iv (own_n nn), rv b1, rv b3, iv (own_n nn), iv 1, iv (own_n kq13), .unset, .unset, .unset, .unset, .unset, .unset, .unset, .unset, .unset, .unset, .unset, .unset, .unset, .unset, .unset]) rfl ?_
            refine XS.iloadN X13.here hx rfl (hb hby at_54) rfl ?_
            show oS p e below T13 (mkF m 55 #[iv p0, iv p1, iv p2, iv p3, iv p4, iv (own_n nn), rv b1, rv b3, iv (own_n nn), iv 1, iv (own_n kq13), .unset, .unset, .unset, .unset, .unset, .unset, .unset, .unset, .unset, .unset, .unset, .unset, .unset, .unset, .unset] [(.int p1)]) _
            refine XS.iload X13.here hx rfl (hb hby at_55) rfl ?_
            refine st14 _ ?_
            refine XS.istore X14.here hx rfl (hb hby at_60) rfl (l' := #[iv p0, iv p1, iv p2, iv p3, iv p4, iv (own_n nn), rv b1, rv b3, iv (own_n nn), iv 1, iv (own_n kq13), iv (own_n kq14), .unset, .unset, .unset, .unset, .unset, .unset, .unset, .unset, .unset, .unset, .unset, .unset, .unset, .unset]) rfl ?_
            refine XS.aload X14.here hx rfl (hb hby at_62) rfl rfl ?_
            refine XS.iload X14.here hx rfl (hb hby at_64) rfl ?_
            refine XS.iload X14.here hx rfl (hb hby at_66) rfl ?_
            refine st19 _ ?_
            refine XS.istore X19.here hx rfl (hb hby at_71) rfl (l' := #[iv p0, iv p1, iv p2, iv p3, iv p4, iv (own_n nn), rv b1, rv b3, iv (own_n nn), iv 1, iv (own_n kq13), iv (own_n kq14), iv 0, .unset, .unset, .unset, .unset, .unset, .unset, .unset, .unset, .unset, .unset, .unset, .unset, .unset]) rfl ?_
            show oS p e below T19 (mkF m 73 #[iv p0, iv p1, iv p2, iv p3, iv p4, iv (own_n nn), rv b1, rv b3, iv (own_n nn), iv 1, iv (own_n kq13), iv (own_n kq14), iv 0, .unset, .unset, .unset, .unset, .unset, .unset, .unset, .unset, .unset, .unset, .unset, .unset, .unset] []) _
            refine XS.aload X19.here hx rfl (hb hby at_73) rfl rfl ?_
            refine XS.iload X19.here hx rfl (hb hby at_75) rfl ?_
            refine XS.iload X19.here hx rfl (hb hby at_77) rfl ?_
            refine st21 _ ?_
            refine XS.istore X21.here hx rfl (hb hby at_82) rfl (l' := #[iv p0, iv p1, iv p2, iv p3, iv p4, iv (own_n nn), rv b1, rv b3, iv (own_n nn), iv 1, iv (own_n kq13), iv (own_n kq14), iv 0, iv 0, .unset, .unset, .unset, .unset, .unset, .unset, .unset, .unset, .unset, .unset, .unset, .unset]) rfl ?_
            refine XS.iload X21.here hx rfl (hb hby at_84) rfl ?_
            refine XS.ifYes X21.here hx rfl (pc0 := 86) (pc' := 95) rfl (hb hby at_86) rfl (XT.i0_eq_t (by decide)) (by decide) (by decide) ?_
            refine XS.iload X21.here hx rfl (hb hby at_95) rfl ?_
            show oS p e below T21 (mkF m 97 #[iv p0, iv p1, iv p2, iv p3, iv p4, iv (own_n nn), rv b1, rv b3, iv (own_n nn), iv 1, iv (own_n kq13), iv (own_n kq14), iv 0, iv 0, .unset, .unset, .unset, .unset, .unset, .unset, .unset, .unset, .unset, .unset, .unset, .unset] [(.int 1)]) _
            refine XS.ifNo X21.here hx rfl (hb hby at_97) rfl (XT.i0_eq_f (by decide)) ?_
            refine XS.iload X21.here hx rfl (hb hby at_100) rfl ?_
            refine XS.iload X21.here hx rfl (hb hby at_102) rfl ?_
            refine XS.icmpNo X21.here hx rfl (hb hby at_104) rfl (XT.ii_ne_f (by decide)) ?_
            refine XS.aload X21.here hx rfl (hb hby at_107) rfl rfl ?_
            refine st22 _ ?_
            refine XS.iload X22.here hx rfl (hb hby at_112) rfl ?_
            refine XS.icmpNo X22.here hx rfl (hb hby at_114) rfl (XT.ii_ne_f rfl) ?_
            show oS p e below T22 (mkF m 117 #[iv p0, iv p1, iv p2, iv p3, iv p4, iv (own_n nn), rv b1, rv b3, iv (own_n nn), iv 1, iv (own_n kq13), iv (own_n kq14), iv 0, iv 0, .unset, .unset, .unset, .unset, .unset, .unset, .unset, .unset, .unset, .unset, .unset, .unset] []) _
            refine XT.iconstV X22.here hx rfl (1 : Int32) (hb hby at_117) (by decide) ?_
            refine XS.goto X22.here hx rfl (pc0 := 118) (pc' := 122) rfl (hb hby at_118) (by decide) (by decide) ?_
            refine XS.istore X22.here hx rfl (hb hby at_122) rfl (l' := #[iv p0, iv p1, iv p2, iv p3, iv p4, iv (own_n nn), rv b1, rv b3, iv (own_n nn), iv 1, iv (own_n kq13), iv (own_n kq14), iv 0, iv 0, .unset, .unset, .unset, .unset, .unset, .unset, .unset, .unset, .unset, .unset, .unset, .unset]) rfl ?_
            refine XS.iloadN X22.here hx rfl (hb hby at_124) rfl ?_
            refine XS.iload X22.here hx rfl (hb hby at_125) rfl ?_
            refine st24 _ ?_
            refine XS.istore X24.here hx rfl (hb hby at_130) rfl (l' := #[iv p0, iv p1, iv p2, iv p3, iv p4, iv (own_n nn), rv b1, rv b3, iv (own_n nn), iv 1, iv (own_n kq13), iv (own_n kq14), iv 0, iv 0, iv (own_n kq24), .unset, .unset, .unset, .unset, .unset, .unset, .unset, .unset, .unset, .unset, .unset]) rfl ?_
            refine XS.iloadN X24.here hx rfl (hb hby at_132) rfl ?_
            show oS p e below T24 (mkF m 133 #[iv p0, iv p1, iv p2, iv p3, iv p4, iv (own_n nn), rv b1, rv b3, iv (own_n nn), iv 1, iv (own_n kq13), iv (own_n kq14), iv 0, iv 0, iv (own_n kq24), .unset, .unset, .unset, .unset, .unset, .unset, .unset, .unset, .unset, .unset, .unset] [(.int p2)]) _
            refine XS.iload X24.here hx rfl (hb hby at_133) rfl ?_
            refine st25 _ ?_
            refine XS.istore X25.here hx rfl (hb hby at_138) rfl (l' := #[iv p0, iv p1, iv p2, iv p3, iv p4, iv (own_n nn), rv b1, rv b3, iv (own_n nn), iv 1, iv (own_n kq13), iv (own_n kq14), iv 0, iv 0, iv (own_n kq24), iv (own_n kq25), .unset, .unset, .unset, .unset, .unset, .unset, .unset, .unset, .unset, .unset]) rfl ?_
            refine XS.aload X25.here hx rfl (hb hby at_140) rfl rfl ?_
            refine XS.iload X25.here hx rfl (hb hby at_142) rfl ?_
            refine XS.iload X25.here hx rfl (hb hby at_144) rfl ?_
            refine st26 _ ?_
            refine XS.istore X26.here hx rfl (hb hby at_149) rfl (l' := #[iv p0, iv p1, iv p2, iv p3, iv p4, iv (own_n nn), rv b1, rv b3, iv (own_n nn), iv 1, iv (own_n kq13), iv (own_n kq14), iv 0, iv 0, iv (own_n kq24), iv (own_n kq25), iv 0, .unset, .unset, .unset, .unset, .unset, .unset, .unset, .unset, .unset]) rfl ?_
            show oS p e below T26 (mkF m 151 #[iv p0, iv p1, iv p2, iv p3, iv p4, iv (own_n nn), rv b1, rv b3, iv (own_n nn), iv 1, iv (own_n kq13), iv (own_n kq14), iv 0, iv 0, iv (own_n kq24), iv (own_n kq25), iv 0, .unset, .unset, .unset, .unset, .unset, .unset, .unset, .unset, .unset] []) _
            refine XS.aload X26.here hx rfl (hb hby at_151) rfl rfl ?_
            refine XS.iload X26.here hx rfl (hb hby at_153) rfl ?_
            refine XS.iload X26.here hx rfl (hb hby at_155) rfl ?_
            refine st28 _ ?_
            refine XS.istore X28.here hx rfl (hb hby at_160) rfl (l' := #[iv p0, iv p1, iv p2, iv p3, iv p4, iv (own_n nn), rv b1, rv b3, iv (own_n nn), iv 1, iv (own_n kq13), iv (own_n kq14), iv 0, iv 0, iv (own_n kq24), iv (own_n kq25), iv 0, iv 0, .unset, .unset, .unset, .unset, .unset, .unset, .unset, .unset]) rfl ?_
            refine XS.iload X28.here hx rfl (hb hby at_162) rfl ?_
            refine XS.ifYes X28.here hx rfl (pc0 := 164) (pc' := 173) rfl (hb hby at_164) rfl (XT.i0_eq_t (by decide)) (by decide) (by decide) ?_
            refine XS.iload X28.here hx rfl (hb hby at_173) rfl ?_
            show oS p e below T28 (mkF m 175 #[iv p0, iv p1, iv p2, iv p3, iv p4, iv (own_n nn), rv b1, rv b3, iv (own_n nn), iv 1, iv (own_n kq13), iv (own_n kq14), iv 0, iv 0, iv (own_n kq24), iv (own_n kq25), iv 0, iv 0, .unset, .unset, .unset, .unset, .unset, .unset, .unset, .unset] [(.int 1)]) _
            refine XS.ifNo X28.here hx rfl (hb hby at_175) rfl (XT.i0_eq_f (by decide)) ?_
            refine XS.iload X28.here hx rfl (hb hby at_178) rfl ?_
            refine XS.iload X28.here hx rfl (hb hby at_180) rfl ?_
            refine XS.icmpNo X28.here hx rfl (hb hby at_182) rfl (XT.ii_ne_f (by decide)) ?_
            refine XS.aload X28.here hx rfl (hb hby at_185) rfl rfl ?_
            refine st29 _ ?_
            refine XS.iload X29.here hx rfl (hb hby at_190) rfl ?_
            refine XS.icmpNo X29.here hx rfl (hb hby at_192) rfl (XT.ii_ne_f rfl) ?_
            show oS p e below T29 (mkF m 195 #[iv p0, iv p1, iv p2, iv p3, iv p4, iv (own_n nn), rv b1, rv b3, iv (own_n nn), iv 1, iv (own_n kq13), iv (own_n kq14), iv 0, iv 0, iv (own_n kq24), iv (own_n kq25), iv 0, iv 0, .unset, .unset, .unset, .unset, .unset, .unset, .unset, .unset] []) _
            refine XT.iconstV X29.here hx rfl (1 : Int32) (hb hby at_195) (by decide) ?_
            refine XS.goto X29.here hx rfl (pc0 := 196) (pc' := 200) rfl (hb hby at_196) (by decide) (by decide) ?_
            refine XS.istore X29.here hx rfl (hb hby at_200) rfl (l' := #[iv p0, iv p1, iv p2, iv p3, iv p4, iv (own_n nn), rv b1, rv b3, iv (own_n nn), iv 1, iv (own_n kq13), iv (own_n kq14), iv 0, iv 0, iv (own_n kq24), iv (own_n kq25), iv 0, iv 0, .unset, .unset, .unset, .unset, .unset, .unset, .unset, .unset]) rfl ?_
            refine XS.iloadN X29.here hx rfl (hb hby at_202) rfl ?_
            refine XS.iload X29.here hx rfl (hb hby at_203) rfl ?_
            refine st31 _ ?_
            refine XS.istore X31.here hx rfl (hb hby at_208) rfl (l' := #[iv p0, iv p1, iv p2, iv p3, iv p4, iv (own_n nn), rv b1, rv b3, iv (own_n nn), iv 1, iv (own_n kq13), iv (own_n kq14), iv 0, iv 0, iv (own_n kq24), iv (own_n kq25), iv 0, iv 0, iv (own_n kq31), .unset, .unset, .unset, .unset, .unset, .unset, .unset]) rfl ?_
            refine XS.iloadN X31.here hx rfl (hb hby at_210) rfl ?_
            show oS p e below T31 (mkF m 211 #[iv p0, iv p1, iv p2, iv p3, iv p4, iv (own_n nn), rv b1, rv b3, iv (own_n nn), iv 1, iv (own_n kq13), iv (own_n kq14), iv 0, iv 0, iv (own_n kq24), iv (own_n kq25), iv 0, iv 0, iv (own_n kq31), .unset, .unset, .unset, .unset, .unset, .unset, .unset] [(.int p3)]) _
            refine XS.iload X31.here hx rfl (hb hby at_211) rfl ?_
            refine st32 _ ?_
            refine XS.istore X32.here hx rfl (hb hby at_216) rfl (l' := #[iv p0, iv p1, iv p2, iv p3, iv p4, iv (own_n nn), rv b1, rv b3, iv (own_n nn), iv 1, iv (own_n kq13), iv (own_n kq14), iv 0, iv 0, iv (own_n kq24), iv (own_n kq25), iv 0, iv 0, iv (own_n kq31), iv (own_n kq32), .unset, .unset, .unset, .unset, .unset, .unset]) rfl ?_
            refine XS.aload X32.here hx rfl (hb hby at_218) rfl rfl ?_
            refine XS.iload X32.here hx rfl (hb hby at_220) rfl ?_
            refine XS.iload X32.here hx rfl (hb hby at_222) rfl ?_
            refine st33 _ ?_
            refine XS.istore X33.here hx rfl (hb hby at_227) rfl (l' := #[iv p0, iv p1, iv p2, iv p3, iv p4, iv (own_n nn), rv b1, rv b3, iv (own_n nn), iv 1, iv (own_n kq13), iv (own_n kq14), iv 0, iv 0, iv (own_n kq24), iv (own_n kq25), iv 0, iv 0, iv (own_n kq31), iv (own_n kq32), iv 1, .unset, .unset, .unset, .unset, .unset]) rfl ?_
            show oS p e below T33 (mkF m 229 #[iv p0, iv p1, iv p2, iv p3, iv p4, iv (own_n nn), rv b1, rv b3, iv (own_n nn), iv 1, iv (own_n kq13), iv (own_n kq14), iv 0, iv 0, iv (own_n kq24), iv (own_n kq25), iv 0, iv 0, iv (own_n kq31), iv (own_n kq32), iv 1, .unset, .unset, .unset, .unset, .unset] []) _
            refine XS.aload X33.here hx rfl (hb hby at_229) rfl rfl ?_
            refine XS.iload X33.here hx rfl (hb hby at_231) rfl ?_
            refine XS.iload X33.here hx rfl (hb hby at_233) rfl ?_
            refine st53 _ ?_
            refine XS.istore X53.here hx rfl (hb hby at_238) rfl (l' := #[iv p0, iv p1, iv p2, iv p3, iv p4, iv (own_n nn), rv b1, rv b3, iv (own_n nn), iv 1, iv (own_n kq13), iv (own_n kq14), iv 0, iv 0, iv (own_n kq24), iv (own_n kq25), iv 0, iv 0, iv (own_n kq31), iv (own_n kq32), iv 1, iv 1, .unset, .unset, .unset, .unset]) rfl ?_
            refine XS.iload X53.here hx rfl (hb hby at_240) rfl ?_
            refine XS.ifNo X53.here hx rfl (hb hby at_242) rfl (XT.i0_eq_f (by decide)) ?_
            refine XS.iload X53.here hx rfl (hb hby at_245) rfl ?_
            show oS p e below T53 (mkF m 247 #[iv p0, iv p1, iv p2, iv p3, iv p4, iv (own_n nn), rv b1, rv b3, iv (own_n nn), iv 1, iv (own_n kq13), iv (own_n kq14), iv 0, iv 0, iv (own_n kq24), iv (own_n kq25), iv 0, iv 0, iv (own_n kq31), iv (own_n kq32), iv 1, iv 1, .unset, .unset, .unset, .unset] [(.int (own_n nn))]) _
            refine XT.iconstV X53.here hx rfl (1 : Int32) (hb hby at_247) (by decide) ?_
            refine XS.isub X53.here hx rfl (hb hby at_248) rfl ?_
            refine XS.istore X53.here hx rfl (hb hby at_249) rfl (l' := #[iv p0, iv p1, iv p2, iv p3, iv p4, iv (own_n nn), rv b1, rv b3, iv (((own_n nn) - (1 : Int32))), iv 1, iv (own_n kq13), iv (own_n kq14), iv 0, iv 0, iv (own_n kq24), iv (own_n kq25), iv 0, iv 0, iv (own_n kq31), iv (own_n kq32), iv 1, iv 1, .unset, .unset, .unset, .unset]) rfl ?_
            refine XS.iload X53.here hx rfl (hb hby at_251) rfl ?_
            refine XS.ifNo X53.here hx rfl (hb hby at_253) rfl (XT.i0_eq_f (by decide)) ?_
            refine XS.iload X53.here hx rfl (hb hby at_256) rfl ?_
            refine XS.iload X53.here hx rfl (hb hby at_258) rfl ?_
            refine XS.icmpNo X53.here hx rfl (hb hby at_260) rfl (XT.ii_ne_f (by decide)) ?_
            show oS p e below T53 (mkF m 263 #[iv p0, iv p1, iv p2, iv p3, iv p4, iv (own_n nn), rv b1, rv b3, iv (((own_n nn) - (1 : Int32))), iv 1, iv (own_n kq13), iv (own_n kq14), iv 0, iv 0, iv (own_n kq24), iv (own_n kq25), iv 0, iv 0, iv (own_n kq31), iv (own_n kq32), iv 1, iv 1, .unset, .unset, .unset, .unset] []) _
            refine XS.aload X53.here hx rfl (hb hby at_263) rfl rfl ?_
            refine st55 _ ?_
            refine XS.iload X55.here hx rfl (hb hby at_268) rfl ?_
            refine XS.icmpNo X55.here hx rfl (hb hby at_270) rfl (XT.ii_ne_f rfl) ?_
            refine XT.iconstV X55.here hx rfl (1 : Int32) (hb hby at_273) (by decide) ?_
            refine XS.goto X55.here hx rfl (pc0 := 274) (pc' := 278) rfl (hb hby at_274) (by decide) (by decide) ?_
            refine XS.istore X55.here hx rfl (hb hby at_278) rfl (l' := #[iv p0, iv p1, iv p2, iv p3, iv p4, iv (own_n nn), rv b1, rv b3, iv (((own_n nn) - (1 : Int32))), iv 1, iv (own_n kq13), iv (own_n kq14), iv 0, iv 0, iv (own_n kq24), iv (own_n kq25), iv 0, iv 0, iv (own_n kq31), iv (own_n kq32), iv 1, iv 1, .unset, .unset, .unset, .unset]) rfl ?_
            refine XS.iload X55.here hx rfl (hb hby at_280) rfl ?_
            show oS p e below T55 (mkF m 282 #[iv p0, iv p1, iv p2, iv p3, iv p4, iv (own_n nn), rv b1, rv b3, iv (((own_n nn) - (1 : Int32))), iv 1, iv (own_n kq13), iv (own_n kq14), iv 0, iv 0, iv (own_n kq24), iv (own_n kq25), iv 0, iv 0, iv (own_n kq31), iv (own_n kq32), iv 1, iv 1, .unset, .unset, .unset, .unset] [(.int p4)]) _
            refine XS.iload X55.here hx rfl (hb hby at_282) rfl ?_
            refine st57 _ ?_
            refine XS.istore X57.here hx rfl (hb hby at_287) rfl (l' := #[iv p0, iv p1, iv p2, iv p3, iv p4, iv (own_n nn), rv b1, rv b3, iv (((own_n nn) - (1 : Int32))), iv 1, iv (own_n kq13), iv (own_n kq14), iv 0, iv 0, iv (own_n kq24), iv (own_n kq25), iv 0, iv 0, iv (own_n kq31), iv (own_n kq32), iv 1, iv 1, iv (own_n kq57), .unset, .unset, .unset]) rfl ?_
            refine XS.iload X57.here hx rfl (hb hby at_289) rfl ?_
            refine XS.iload X57.here hx rfl (hb hby at_291) rfl ?_
            refine st58 _ ?_
            refine XS.istore X58.here hx rfl (hb hby at_296) rfl (l' := #[iv p0, iv p1, iv p2, iv p3, iv p4, iv (own_n nn), rv b1, rv b3, iv (((own_n nn) - (1 : Int32))), iv 1, iv (own_n kq13), iv (own_n kq14), iv 0, iv 0, iv (own_n kq24), iv (own_n kq25), iv 0, iv 0, iv (own_n kq31), iv (own_n kq32), iv 1, iv 1, iv (own_n kq57), iv (own_n kq58), .unset, .unset]) rfl ?_
            refine XS.aload X58.here hx rfl (hb hby at_298) rfl rfl ?_
            show oS p e below T58 (mkF m 300 #[iv p0, iv p1, iv p2, iv p3, iv p4, iv (own_n nn), rv b1, rv b3, iv (((own_n nn) - (1 : Int32))), iv 1, iv (own_n kq13), iv (own_n kq14), iv 0, iv 0, iv (own_n kq24), iv (own_n kq25), iv 0, iv 0, iv (own_n kq31), iv (own_n kq32), iv 1, iv 1, iv (own_n kq57), iv (own_n kq58), .unset, .unset] [(.ref b1)]) _
            refine XS.iload X58.here hx rfl (hb hby at_300) rfl ?_
            refine XS.iload X58.here hx rfl (hb hby at_302) rfl ?_
            refine st61 _ ?_
            refine XS.istore X61.here hx rfl (hb hby at_307) rfl (l' := #[iv p0, iv p1, iv p2, iv p3, iv p4, iv (own_n nn), rv b1, rv b3, iv (((own_n nn) - (1 : Int32))), iv 1, iv (own_n kq13), iv (own_n kq14), iv 0, iv 0, iv (own_n kq24), iv (own_n kq25), iv 0, iv 0, iv (own_n kq31), iv (own_n kq32), iv 1, iv 1, iv (own_n kq57), iv (own_n kq58), iv 1, .unset]) rfl ?_
            refine XS.aload X61.here hx rfl (hb hby at_309) rfl rfl ?_
            refine XS.iload X61.here hx rfl (hb hby at_311) rfl ?_
            refine XS.iload X61.here hx rfl (hb hby at_313) rfl ?_
            refine st68 _ ?_
            show oS p e below T68 (mkF m 318 #[iv p0, iv p1, iv p2, iv p3, iv p4, iv (own_n nn), rv b1, rv b3, iv (((own_n nn) - (1 : Int32))), iv 1, iv (own_n kq13), iv (own_n kq14), iv 0, iv 0, iv (own_n kq24), iv (own_n kq25), iv 0, iv 0, iv (own_n kq31), iv (own_n kq32), iv 1, iv 1, iv (own_n kq57), iv (own_n kq58), iv 1, .unset] [(.int 1)]) _
            refine XS.istore X68.here hx rfl (hb hby at_318) rfl (l' := #[iv p0, iv p1, iv p2, iv p3, iv p4, iv (own_n nn), rv b1, rv b3, iv (((own_n nn) - (1 : Int32))), iv 1, iv (own_n kq13), iv (own_n kq14), iv 0, iv 0, iv (own_n kq24), iv (own_n kq25), iv 0, iv 0, iv (own_n kq31), iv (own_n kq32), iv 1, iv 1, iv (own_n kq57), iv (own_n kq58), iv 1, iv 1]) rfl ?_
            refine XS.iload X68.here hx rfl (hb hby at_320) rfl ?_
            refine XS.ifNo X68.here hx rfl (hb hby at_322) rfl (XT.i0_eq_f (by decide)) ?_
            refine XS.iload X68.here hx rfl (hb hby at_325) rfl ?_
            refine XT.iconstV X68.here hx rfl (1 : Int32) (hb hby at_327) (by decide) ?_
            refine XS.isub X68.here hx rfl (hb hby at_328) rfl ?_
            refine XS.istore X68.here hx rfl (hb hby at_329) rfl (l' := #[iv p0, iv p1, iv p2, iv p3, iv p4, iv (own_n nn), rv b1, rv b3, iv ((((own_n nn) - (1 : Int32)) - (1 : Int32))), iv 1, iv (own_n kq13), iv (own_n kq14), iv 0, iv 0, iv (own_n kq24), iv (own_n kq25), iv 0, iv 0, iv (own_n kq31), iv (own_n kq32), iv 1, iv 1, iv (own_n kq57), iv (own_n kq58), iv 1, iv 1]) rfl ?_
            refine XS.iload X68.here hx rfl (hb hby at_331) rfl ?_
            show oS p e below T68 (mkF m 333 #[iv p0, iv p1, iv p2, iv p3, iv p4, iv (own_n nn), rv b1, rv b3, iv ((((own_n nn) - (1 : Int32)) - (1 : Int32))), iv 1, iv (own_n kq13), iv (own_n kq14), iv 0, iv 0, iv (own_n kq24), iv (own_n kq25), iv 0, iv 0, iv (own_n kq31), iv (own_n kq32), iv 1, iv 1, iv (own_n kq57), iv (own_n kq58), iv 1, iv 1] [(.int 1)]) _
            refine XS.ifNo X68.here hx rfl (hb hby at_333) rfl (XT.i0_eq_f (by decide)) ?_
            refine XS.iload X68.here hx rfl (hb hby at_336) rfl ?_
            refine XS.iload X68.here hx rfl (hb hby at_338) rfl ?_
            refine XS.icmpNo X68.here hx rfl (hb hby at_340) rfl (XT.ii_ne_f (by decide)) ?_
            refine XS.aload X68.here hx rfl (hb hby at_343) rfl rfl ?_
            refine st70 _ ?_
            refine XS.iload X70.here hx rfl (hb hby at_348) rfl ?_
            refine XS.icmpNo X70.here hx rfl (hb hby at_350) rfl (XT.ii_ne_f rfl) ?_
            show oS p e below T70 (mkF m 353 #[iv p0, iv p1, iv p2, iv p3, iv p4, iv (own_n nn), rv b1, rv b3, iv ((((own_n nn) - (1 : Int32)) - (1 : Int32))), iv 1, iv (own_n kq13), iv (own_n kq14), iv 0, iv 0, iv (own_n kq24), iv (own_n kq25), iv 0, iv 0, iv (own_n kq31), iv (own_n kq32), iv 1, iv 1, iv (own_n kq57), iv (own_n kq58), iv 1, iv 1] []) _
            refine XT.iconstV X70.here hx rfl (1 : Int32) (hb hby at_353) (by decide) ?_
            refine XS.goto X70.here hx rfl (pc0 := 354) (pc' := 358) rfl (hb hby at_354) (by decide) (by decide) ?_
            refine XS.istore X70.here hx rfl (hb hby at_358) rfl (l' := #[iv p0, iv p1, iv p2, iv p3, iv p4, iv (own_n nn), rv b1, rv b3, iv ((((own_n nn) - (1 : Int32)) - (1 : Int32))), iv 1, iv (own_n kq13), iv (own_n kq14), iv 0, iv 0, iv (own_n kq24), iv (own_n kq25), iv 0, iv 0, iv (own_n kq31), iv (own_n kq32), iv 1, iv 1, iv (own_n kq57), iv (own_n kq58), iv 1, iv 1]) rfl ?_
            refine XS.iload X70.here hx rfl (hb hby at_360) rfl ?_
            exact kz)
          obtain ⟨fs, hr, hrun, hended, hW, hsame⟩ := X70.leave (v := some (.int 1)) (fun h => by rw [Bd.returns] at h; cases h)
          refine ⟨_, _, pre0 _ (S72 _ ?_), hrun, hended, _, _, rfl, ?_, ⟨_, rfl⟩, hW, hsame.mono (by decide) (by decide)⟩
          · exact retN X70 hx (t := .boolean) Bd.returns (by simp) (hb hby at_362) hr
          · show Qrm0s Z p0 p1 p2 p3 p4 nn h0 n0 _ T70.heap _
            rw [e70]
            exact ⟨rfl, N70⟩
    · have N26 := Fr.app N25 N26q
      have e26 : T26.heap = T26.heap := rfl
      have Zk26 : n0 ≤ T26.heap.size := Nat.le_trans Zk19 K26.1
      have Kk26 : Keep h0 T26.heap [] := Kk19.trans K26 (allS (Or.inr sz_b1) (allS (Or.inr sz_b2') all0))
      have f73 := (f20.keep K26 (ninS (Ne.symm ne_b1_b3) (ninS (Ne.symm ne_b2'_b3) nin0)))
      obtain ⟨_, T74, Lc74, X74, hQ74, st74⟩ := own_callS (W := 0) (y := mN5) X26 hx hZ hown (hw _ (own_w 30 rfl)) (hw _ (own_w 31 rfl)) (hw _ (own_w 16 rfl)) (hw _ (own_w 32 rfl)) (by decide) (rmRef1 l Z av0 hw [] b3 k3 own_n kq24 kq25 T26.heap n0 Zk26 f73 (Nat.lt_of_lt_of_le lq24 hnn) (Nat.lt_of_lt_of_le lq25 hnn) ge_b3 (fun q => rs26 ((RL2 _ lq24 _ lq25).mpr q))) (by decide) (by decide) (g := (mkF m 157 #[iv p0, iv p1, iv p2, iv p3, iv p4, iv (own_n nn), rv b1, rv b3, iv (own_n nn), iv 1, iv (own_n kq13), iv (own_n kq14), iv 0, iv 0, iv (own_n kq24), iv (own_n kq25), iv 1, .unset, .unset, .unset, .unset, .unset, .unset, .unset, .unset, .unset] [(.int (own_n kq25)), (.int (own_n kq24)), (.ref b3)])) rfl (by rw [hml]; rfl) (argsL := [(.ref b3), (.int (own_n kq24)), (.int (own_n kq25))]) (rest := []) (lenOf pd__III_Z rfl) rfl (hb hby at_157) rfl e26 (by decide : 3 + 0 ≤ _) (by decide : 10 + 0 ≤ _)
      obtain ⟨rfl, N74q, K74, B74⟩ := hQ74
      have N74 := Fr.app N26 N74q
      have e74 : T74.heap = T74.heap := rfl
      have Zk74 : n0 ≤ T74.heap.size := Nat.le_trans Zk26 K74.1
      have Kk74 : Keep h0 T74.heap [] := Kk26.trans K74 (allS (Or.inr sz_b3) all0)
      have RL74 := own_RL RL2 lq24 lq25
      have f75 := (C26.keep K74 (ninS ne_b1_b3 nin0))
      have f77 := ((f23.keep K26).keep K74)
      obtain ⟨_, T76, Lc76, X76, hQ76, st76⟩ := own_virtual (W := 0) (y := mN0) (z := mN0) X74 hx hZ hown (hw _ (own_w 33 rfl)) (hw _ (own_w 34 rfl)) (notFace_of_selects (args := #[]) (mvT hZ (hw _ (own_w 36 rfl)))) (hw _ (own_w 36 rfl)) (hw _ (own_w 35 rfl)) (hw _ (own_w 37 rfl)) (hw _ (own_w 2 rfl)) (by decide) (rmCount l Z av0 hw [] b1 ((own_n nn) - (1 : Int32)) T74.heap n0 Zk74 f75) (by decide) (by decide) f77 (g := (mkF m 187 #[iv p0, iv p1, iv p2, iv p3, iv p4, iv (own_n nn), rv b1, rv b3, iv (((own_n nn) - (1 : Int32))), iv 1, iv (own_n kq13), iv (own_n kq14), iv 0, iv 0, iv (own_n kq24), iv (own_n kq25), iv 1, iv 1, .unset, .unset, .unset, .unset, .unset, .unset, .unset, .unset] [(.ref b1)])) rfl (by rw [hml]; rfl) (argsL := []) (rest := []) (lenOf pd__I rfl) rfl (hb hby at_187) rfl e74 (by decide : 3 + 0 ≤ _) (by decide : 10 + 0 ≤ _)
      obtain ⟨rfl, N76q, hh76⟩ := hQ76
      have N76 := Fr.app N74 N76q
      have e76 : T76.heap = T74.heap := hh76
      obtain ⟨_, T78, Lc78, X78, hQ78, st78⟩ := own_callS (W := 0) (y := mN1) X76 hx hZ hown (hw _ (own_w 14 rfl)) (hw _ (own_w 15 rfl)) (hw _ (own_w 16 rfl)) (hw _ (own_w 17 rfl)) (by decide) (rmFirst l Z av0 hw [] p3 nn T74.heap n0 Zk74 hone hnn) (by decide) (by decide) (g := (mkF m 205 #[iv p0, iv p1, iv p2, iv p3, iv p4, iv (own_n nn), rv b1, rv b3, iv (((own_n nn) - (1 : Int32))), iv 1, iv (own_n kq13), iv (own_n kq14), iv 0, iv 0, iv (own_n kq24), iv (own_n kq25), iv 1, iv 1, .unset, .unset, .unset, .unset, .unset, .unset, .unset, .unset] [(.int (own_n nn)), (.int p3)])) rfl (by rw [hml]; rfl) (argsL := [(.int p3), (.int (own_n nn))]) (rest := []) (lenOf pd__II_I rfl) rfl (hb hby at_205) rfl e76 (by decide : 3 + 0 ≤ _) (by decide : 10 + 0 ≤ _)
      obtain ⟨kq78, lq78, rfl, N78q, hh78⟩ := hQ78
      have N78 := Fr.app N76 N78q
      have e78 : T78.heap = T74.heap := hh78
      obtain ⟨_, T79, Lc79, X79, hQ79, st79⟩ := own_callS (W := 0) (y := mN2) X78 hx hZ hown (hw _ (own_w 18 rfl)) (hw _ (own_w 19 rfl)) (hw _ (own_w 16 rfl)) (hw _ (own_w 20 rfl)) (by decide) (rmSecond l Z av0 hw [] p3 nn T74.heap n0 Zk74 hone hnn) (by decide) (by decide) (g := (mkF m 213 #[iv p0, iv p1, iv p2, iv p3, iv p4, iv (own_n nn), rv b1, rv b3, iv (((own_n nn) - (1 : Int32))), iv 1, iv (own_n kq13), iv (own_n kq14), iv 0, iv 0, iv (own_n kq24), iv (own_n kq25), iv 1, iv 1, iv (own_n kq78), .unset, .unset, .unset, .unset, .unset, .unset, .unset] [(.int (own_n nn)), (.int p3)])) rfl (by rw [hml]; rfl) (argsL := [(.int p3), (.int (own_n nn))]) (rest := []) (lenOf pd__II_I rfl) rfl (hb hby at_213) rfl e78 (by decide : 3 + 0 ≤ _) (by decide : 10 + 0 ≤ _)
      obtain ⟨kq79, lq79, rfl, N79q, hh79⟩ := hQ79
      have N79 := Fr.app N78 N79q
      have e79 : T79.heap = T74.heap := hh79
      have f80 := (P26.keep K74 (ninS ne_b1_b3 nin0))
      have f81 := (A26.keep K74 (ninS ne_b2'_b3 nin0))
      obtain ⟨_, T82, Lc82, X82, hQ82, st82⟩ := own_virtual (W := 0) (y := mN4) (z := mN4) X79 hx hZ hown (hw _ (own_w 21 rfl)) (hw _ (own_w 22 rfl)) (notFace_of_selects (args := #[]) (mvT hZ (hw _ (own_w 24 rfl)))) (hw _ (own_w 24 rfl)) (hw _ (own_w 23 rfl)) (hw _ (own_w 25 rfl)) (hw _ (own_w 2 rfl)) (by decide) (rmJoin l Z av0 hw [] b1 b2' k2' nn f26' (own_R (fun i => i) ((fun i => i) kq24) ((fun i => i) kq25)) d26' kq78 kq79 ((own_n nn) - (1 : Int32)) T74.heap n0 Zk74 hnn f77 f80 f75 f81 I26 lq78 lq79 ge_b1 ge_b2' ne_b1_b2') (by decide) (by decide) f77 (g := (mkF m 224 #[iv p0, iv p1, iv p2, iv p3, iv p4, iv (own_n nn), rv b1, rv b3, iv (((own_n nn) - (1 : Int32))), iv 1, iv (own_n kq13), iv (own_n kq14), iv 0, iv 0, iv (own_n kq24), iv (own_n kq25), iv 1, iv 1, iv (own_n kq78), iv (own_n kq79), .unset, .unset, .unset, .unset, .unset, .unset] [(.int (own_n kq79)), (.int (own_n kq78)), (.ref b1)])) rfl (by rw [hml]; rfl) (argsL := [(.int (own_n kq78)), (.int (own_n kq79))]) (rest := []) (lenOf pd__II_Z rfl) rfl (hb hby at_224) rfl e79 (by decide : 3 + 0 ≤ _) (by decide : 10 + 0 ≤ _)
      rcases hQ82 with ⟨rfl, N82q, rs82, K82, P82, C82, f82', A82, I82⟩ | ⟨rfl, N82q, rs82, K82, P82, C82, f82', d82', A82, I82⟩
      · have N82 := Fr.app N79 N82q
        have e82 : T82.heap = T82.heap := rfl
        have Zk82 : n0 ≤ T82.heap.size := Nat.le_trans Zk74 K82.1
        have Kk82 : Keep h0 T82.heap [] := Kk74.trans K82 (allS (Or.inr sz_b1) (allS (Or.inr sz_b2') all0))
        have f83 := (B74.keep K82 (ninS (Ne.symm ne_b1_b3) (ninS (Ne.symm ne_b2'_b3) nin0)))
        obtain ⟨_, T84, Lc84, X84, hQ84, st84⟩ := own_callS (W := 0) (y := mN5) X82 hx hZ hown (hw _ (own_w 30 rfl)) (hw _ (own_w 31 rfl)) (hw _ (own_w 16 rfl)) (hw _ (own_w 32 rfl)) (by decide) (rmRef0 l Z av0 hw [] b3 k3 (own_L own_n (own_n kq24) (own_n kq25)) kq78 kq79 T82.heap n0 Zk82 f83 (Nat.lt_of_lt_of_le lq78 hnn) (Nat.lt_of_lt_of_le lq79 hnn) ge_b3 ((RL74 _ lq78 _ lq79).mp rs82)) (by decide) (by decide) (g := (mkF m 235 #[iv p0, iv p1, iv p2, iv p3, iv p4, iv (own_n nn), rv b1, rv b3, iv (((own_n nn) - (1 : Int32))), iv 1, iv (own_n kq13), iv (own_n kq14), iv 0, iv 0, iv (own_n kq24), iv (own_n kq25), iv 1, iv 1, iv (own_n kq78), iv (own_n kq79), iv 0, .unset, .unset, .unset, .unset, .unset] [(.int (own_n kq79)), (.int (own_n kq78)), (.ref b3)])) rfl (by rw [hml]; rfl) (argsL := [(.ref b3), (.int (own_n kq78)), (.int (own_n kq79))]) (rest := []) (lenOf pd__III_Z rfl) rfl (hb hby at_235) rfl e82 (by decide : 3 + 0 ≤ _) (by decide : 10 + 0 ≤ _)
        obtain ⟨rfl, N84q, hh84⟩ := hQ84
        have N84 := Fr.app N82 N84q
        have e84 : T84.heap = T82.heap := hh84
        have f86 := (f77.keep K82)
        obtain ⟨_, T85, Lc85, X85, hQ85, st85⟩ := own_virtual (W := 0) (y := mN0) (z := mN0) X84 hx hZ hown (hw _ (own_w 33 rfl)) (hw _ (own_w 34 rfl)) (notFace_of_selects (args := #[]) (mvT hZ (hw _ (own_w 36 rfl)))) (hw _ (own_w 36 rfl)) (hw _ (own_w 35 rfl)) (hw _ (own_w 37 rfl)) (hw _ (own_w 2 rfl)) (by decide) (rmCount l Z av0 hw [] b1 ((own_n nn) - (1 : Int32)) T82.heap n0 Zk82 C82) (by decide) (by decide) f86 (g := (mkF m 265 #[iv p0, iv p1, iv p2, iv p3, iv p4, iv (own_n nn), rv b1, rv b3, iv (((own_n nn) - (1 : Int32))), iv 1, iv (own_n kq13), iv (own_n kq14), iv 0, iv 0, iv (own_n kq24), iv (own_n kq25), iv 1, iv 1, iv (own_n kq78), iv (own_n kq79), iv 0, iv 0, .unset, .unset, .unset, .unset] [(.ref b1)])) rfl (by rw [hml]; rfl) (argsL := []) (rest := []) (lenOf pd__I rfl) rfl (hb hby at_265) rfl e84 (by decide : 3 + 0 ≤ _) (by decide : 10 + 0 ≤ _)
        obtain ⟨rfl, N85q, hh85⟩ := hQ85
        have N85 := Fr.app N84 N85q
        have e85 : T85.heap = T82.heap := hh85
        obtain ⟨_, T87, Lc87, X87, hQ87, st87⟩ := own_callS (W := 0) (y := mN1) X85 hx hZ hown (hw _ (own_w 14 rfl)) (hw _ (own_w 15 rfl)) (hw _ (own_w 16 rfl)) (hw _ (own_w 17 rfl)) (by decide) (rmFirst l Z av0 hw [] p4 nn T82.heap n0 Zk82 hone hnn) (by decide) (by decide) (g := (mkF m 284 #[iv p0, iv p1, iv p2, iv p3, iv p4, iv (own_n nn), rv b1, rv b3, iv (((own_n nn) - (1 : Int32))), iv 1, iv (own_n kq13), iv (own_n kq14), iv 0, iv 0, iv (own_n kq24), iv (own_n kq25), iv 1, iv 1, iv (own_n kq78), iv (own_n kq79), iv 0, iv 0, .unset, .unset, .unset, .unset] [(.int (own_n nn)), (.int p4)])) rfl (by rw [hml]; rfl) (argsL := [(.int p4), (.int (own_n nn))]) (rest := []) (lenOf pd__II_I rfl) rfl (hb hby at_284) rfl e85 (by decide : 3 + 0 ≤ _) (by decide : 10 + 0 ≤ _)
        obtain ⟨kq87, lq87, rfl, N87q, hh87⟩ := hQ87
        have N87 := Fr.app N85 N87q
        have e87 : T87.heap = T82.heap := hh87
        obtain ⟨_, T88, Lc88, X88, hQ88, st88⟩ := own_callS (W := 0) (y := mN2) X87 hx hZ hown (hw _ (own_w 18 rfl)) (hw _ (own_w 19 rfl)) (hw _ (own_w 16 rfl)) (hw _ (own_w 20 rfl)) (by decide) (rmSecond l Z av0 hw [] p4 nn T82.heap n0 Zk82 hone hnn) (by decide) (by decide) (g := (mkF m 293 #[iv p0, iv p1, iv p2, iv p3, iv p4, iv (own_n nn), rv b1, rv b3, iv (((own_n nn) - (1 : Int32))), iv 1, iv (own_n kq13), iv (own_n kq14), iv 0, iv 0, iv (own_n kq24), iv (own_n kq25), iv 1, iv 1, iv (own_n kq78), iv (own_n kq79), iv 0, iv 0, iv (own_n kq87), .unset, .unset, .unset] [(.int (own_n nn)), (.int p4)])) rfl (by rw [hml]; rfl) (argsL := [(.int p4), (.int (own_n nn))]) (rest := []) (lenOf pd__II_I rfl) rfl (hb hby at_293) rfl e87 (by decide : 3 + 0 ≤ _) (by decide : 10 + 0 ≤ _)
        obtain ⟨kq88, lq88, rfl, N88q, hh88⟩ := hQ88
        have N88 := Fr.app N87 N88q
        have e88 : T88.heap = T82.heap := hh88
        obtain ⟨_, T89, Lc89, X89, hQ89, st89⟩ := own_virtual (W := 0) (y := mN4) (z := mN4) X88 hx hZ hown (hw _ (own_w 21 rfl)) (hw _ (own_w 22 rfl)) (notFace_of_selects (args := #[]) (mvT hZ (hw _ (own_w 24 rfl)))) (hw _ (own_w 24 rfl)) (hw _ (own_w 23 rfl)) (hw _ (own_w 25 rfl)) (hw _ (own_w 2 rfl)) (by decide) (rmJoin l Z av0 hw [] b1 b2' k2' nn f82' (own_R (fun i => i) ((fun i => i) kq24) ((fun i => i) kq25)) d26' kq87 kq88 ((own_n nn) - (1 : Int32)) T82.heap n0 Zk82 hnn f86 P82 C82 A82 I82 lq87 lq88 ge_b1 ge_b2' ne_b1_b2') (by decide) (by decide) f86 (g := (mkF m 304 #[iv p0, iv p1, iv p2, iv p3, iv p4, iv (own_n nn), rv b1, rv b3, iv (((own_n nn) - (1 : Int32))), iv 1, iv (own_n kq13), iv (own_n kq14), iv 0, iv 0, iv (own_n kq24), iv (own_n kq25), iv 1, iv 1, iv (own_n kq78), iv (own_n kq79), iv 0, iv 0, iv (own_n kq87), iv (own_n kq88), .unset, .unset] [(.int (own_n kq88)), (.int (own_n kq87)), (.ref b1)])) rfl (by rw [hml]; rfl) (argsL := [(.int (own_n kq87)), (.int (own_n kq88))]) (rest := []) (lenOf pd__II_Z rfl) rfl (hb hby at_304) rfl e88 (by decide : 3 + 0 ≤ _) (by decide : 10 + 0 ≤ _)
        rcases hQ89 with ⟨rfl, N89q, rs89, K89, P89, C89, f89', A89, I89⟩ | ⟨rfl, N89q, rs89, K89, P89, C89, f89', d89', A89, I89⟩
        · have N89 := Fr.app N88 N89q
          have e89 : T89.heap = T89.heap := rfl
          have Zk89 : n0 ≤ T89.heap.size := Nat.le_trans Zk82 K89.1
          have Kk89 : Keep h0 T89.heap [] := Kk82.trans K89 (allS (Or.inr sz_b1) (allS (Or.inr sz_b2') all0))
          have f90 := (f83.keep K89 (ninS (Ne.symm ne_b1_b3) (ninS (Ne.symm ne_b2'_b3) nin0)))
          obtain ⟨_, T91, Lc91, X91, hQ91, st91⟩ := own_callS (W := 0) (y := mN5) X89 hx hZ hown (hw _ (own_w 30 rfl)) (hw _ (own_w 31 rfl)) (hw _ (own_w 16 rfl)) (hw _ (own_w 32 rfl)) (by decide) (rmRef0 l Z av0 hw [] b3 k3 (own_L own_n (own_n kq24) (own_n kq25)) kq87 kq88 T89.heap n0 Zk89 f90 (Nat.lt_of_lt_of_le lq87 hnn) (Nat.lt_of_lt_of_le lq88 hnn) ge_b3 ((RL74 _ lq87 _ lq88).mp rs89)) (by decide) (by decide) (g := (mkF m 315 #[iv p0, iv p1, iv p2, iv p3, iv p4, iv (own_n nn), rv b1, rv b3, iv (((own_n nn) - (1 : Int32))), iv 1, iv (own_n kq13), iv (own_n kq14), iv 0, iv 0, iv (own_n kq24), iv (own_n kq25), iv 1, iv 1, iv (own_n kq78), iv (own_n kq79), iv 0, iv 0, iv (own_n kq87), iv (own_n kq88), iv 0, .unset] [(.int (own_n kq88)), (.int (own_n kq87)), (.ref b3)])) rfl (by rw [hml]; rfl) (argsL := [(.ref b3), (.int (own_n kq87)), (.int (own_n kq88))]) (rest := []) (lenOf pd__III_Z rfl) rfl (hb hby at_315) rfl e89 (by decide : 3 + 0 ≤ _) (by decide : 10 + 0 ≤ _)
          obtain ⟨rfl, N91q, hh91⟩ := hQ91
          have N91 := Fr.app N89 N91q
          have e91 : T91.heap = T89.heap := hh91
          have f93 := (f86.keep K89)
          obtain ⟨_, T92, Lc92, X92, hQ92, st92⟩ := own_virtual (W := 0) (y := mN0) (z := mN0) X91 hx hZ hown (hw _ (own_w 33 rfl)) (hw _ (own_w 34 rfl)) (notFace_of_selects (args := #[]) (mvT hZ (hw _ (own_w 36 rfl)))) (hw _ (own_w 36 rfl)) (hw _ (own_w 35 rfl)) (hw _ (own_w 37 rfl)) (hw _ (own_w 2 rfl)) (by decide) (rmCount l Z av0 hw [] b1 ((own_n nn) - (1 : Int32)) T89.heap n0 Zk89 C89) (by decide) (by decide) f93 (g := (mkF m 345 #[iv p0, iv p1, iv p2, iv p3, iv p4, iv (own_n nn), rv b1, rv b3, iv (((own_n nn) - (1 : Int32))), iv 1, iv (own_n kq13), iv (own_n kq14), iv 0, iv 0, iv (own_n kq24), iv (own_n kq25), iv 1, iv 1, iv (own_n kq78), iv (own_n kq79), iv 0, iv 0, iv (own_n kq87), iv (own_n kq88), iv 0, iv 0] [(.ref b1)])) rfl (by rw [hml]; rfl) (argsL := []) (rest := []) (lenOf pd__I rfl) rfl (hb hby at_345) rfl e91 (by decide : 3 + 0 ≤ _) (by decide : 10 + 0 ≤ _)
          obtain ⟨rfl, N92q, hh92⟩ := hQ92
          have N92 := Fr.app N91 N92q
          have e92 : T92.heap = T89.heap := hh92
          have S94 : ∀ tz, oS p e below T92 (mkF m 362 #[iv p0, iv p1, iv p2, iv p3, iv p4, iv (own_n nn), rv b1, rv b3, iv (((own_n nn) - (1 : Int32))), iv 1, iv (own_n kq13), iv (own_n kq14), iv 0, iv 0, iv (own_n kq24), iv (own_n kq25), iv 1, iv 1, iv (own_n kq78), iv (own_n kq79), iv 0, iv 0, iv (own_n kq87), iv (own_n kq88), iv 0, iv 0] [(.int 1)]) tz → oS p e below s₁ (mkF m 0 #[iv p0, iv p1, iv p2, iv p3, iv p4, .unset, .unset, .unset, .unset, .unset, .unset, .unset, .unset, .unset, .unset, .unset, .unset, .unset, .unset, .unset, .unset, .unset, .unset, .unset, .unset, .unset] []) tz := fun tz kz => id (by
            show oS p e below s₁ (mkF m 0 #[iv p0, iv p1, iv p2, iv p3, iv p4, .unset, .unset, .unset, .unset, .unset, .unset, .unset, .unset, .unset, .unset, .unset, .unset, .unset, .unset, .unset, .unset, .unset, .unset, .unset, .unset, .unset] []) _
            refine XT.iconstV X0.here hx rfl (1 : Int32) (hb hby at_0) (by decide) ?_
            refine XS.iloadN X0.here hx rfl (hb hby at_1) rfl ?_
            refine XT.iconstV X0.here hx rfl (3 : Int32) (hb hby at_2) (by decide) ?_
            refine XS.iand X0.here hx rfl (hb hby at_3) rfl ?_
            refine XS.iadd X0.here hx rfl (hb hby at_4) rfl ?_
            show oS p e below s₁ (mkF m 5 #[iv p0, iv p1, iv p2, iv p3, iv p4, .unset, .unset, .unset, .unset, .unset, .unset, .unset, .unset, .unset, .unset, .unset, .unset, .unset, .unset, .unset, .unset, .unset, .unset, .unset, .unset, .unset] [(.int ((1 : Int32) + (p0 &&& (3 : Int32))))]) _
            rw [hn]
            show oS p e below s₁ (mkF m 5 #[iv p0, iv p1, iv p2, iv p3, iv p4, .unset, .unset, .unset, .unset, .unset, .unset, .unset, .unset, .unset, .unset, .unset, .unset, .unset, .unset, .unset, .unset, .unset, .unset, .unset, .unset, .unset] [(.int (own_n nn))]) _
            refine XS.istore X0.here hx rfl (hb hby at_5) rfl (l' := #[iv p0, iv p1, iv p2, iv p3, iv p4, iv (own_n nn), .unset, .unset, .unset, .unset, .unset, .unset, .unset, .unset, .unset, .unset, .unset, .unset, .unset, .unset, .unset, .unset, .unset, .unset, .unset, .unset]) rfl ?_
            refine st1 _ ?_
            show oS p e below T1 (mkF m 10 #[iv p0, iv p1, iv p2, iv p3, iv p4, iv (own_n nn), .unset, .unset, .unset, .unset, .unset, .unset, .unset, .unset, .unset, .unset, .unset, .unset, .unset, .unset, .unset, .unset, .unset, .unset, .unset, .unset] [(.ref b1)]) _
            refine XS.dup X1.here hx rfl (hb hby at_10) rfl rfl ?_
            refine XS.iload X1.here hx rfl (hb hby at_11) rfl ?_
            refine st2 _ ?_
            refine XS.astore X2.here hx rfl (hb hby at_16) rfl rfl (l' := #[iv p0, iv p1, iv p2, iv p3, iv p4, iv (own_n nn), rv b1, .unset, .unset, .unset, .unset, .unset, .unset, .unset, .unset, .unset, .unset, .unset, .unset, .unset, .unset, .unset, .unset, .unset, .unset, .unset]) rfl ?_
            refine XT.iconstV X2.here hx rfl (4 : Int32) (hb hby at_18) (by decide) ?_
            refine st3 _ ?_
            refine XS.dup X3.here hx rfl (hb hby at_21) rfl rfl ?_
            refine XT.iconstV X3.here hx rfl (0 : Int32) (hb hby at_22) (by decide) ?_
            show oS p e below T3 (mkF m 23 #[iv p0, iv p1, iv p2, iv p3, iv p4, iv (own_n nn), rv b1, .unset, .unset, .unset, .unset, .unset, .unset, .unset, .unset, .unset, .unset, .unset, .unset, .unset, .unset, .unset, .unset, .unset, .unset, .unset] [(.int 0), (.ref b3), (.ref b3)]) _
            refine XT.iconstV X3.here hx rfl (0 : Int32) (hb hby at_23) (by decide) ?_
            refine st6 _ ?_
            refine XS.dup X6.here hx rfl (hb hby at_25) rfl rfl ?_
            refine XT.iconstV X6.here hx rfl (1 : Int32) (hb hby at_26) (by decide) ?_
            refine XT.iconstV X6.here hx rfl (1 : Int32) (hb hby at_27) (by decide) ?_
            refine st8 _ ?_
            refine XS.dup X8.here hx rfl (hb hby at_29) rfl rfl ?_
            refine XT.iconstV X8.here hx rfl (2 : Int32) (hb hby at_30) (by decide) ?_
            show oS p e below T8 (mkF m 31 #[iv p0, iv p1, iv p2, iv p3, iv p4, iv (own_n nn), rv b1, .unset, .unset, .unset, .unset, .unset, .unset, .unset, .unset, .unset, .unset, .unset, .unset, .unset, .unset, .unset, .unset, .unset, .unset, .unset] [(.int 2), (.ref b3), (.ref b3)]) _
            refine XT.iconstV X8.here hx rfl (2 : Int32) (hb hby at_31) (by decide) ?_
            refine st10 _ ?_
            refine XS.dup X10.here hx rfl (hb hby at_33) rfl rfl ?_
            refine XT.iconstV X10.here hx rfl (3 : Int32) (hb hby at_34) (by decide) ?_
            refine XT.iconstV X10.here hx rfl (3 : Int32) (hb hby at_35) (by decide) ?_
            refine st12 _ ?_
            refine XS.astore X12.here hx rfl (hb hby at_37) rfl rfl (l' := #[iv p0, iv p1, iv p2, iv p3, iv p4, iv (own_n nn), rv b1, rv b3, .unset, .unset, .unset, .unset, .unset, .unset, .unset, .unset, .unset, .unset, .unset, .unset, .unset, .unset, .unset, .unset, .unset, .unset]) rfl ?_
            refine XS.iload X12.here hx rfl (hb hby at_39) rfl ?_
            show oS p e below T12 (mkF m 41 #[iv p0, iv p1, iv p2, iv p3, iv p4, iv (own_n nn), rv b1, rv b3, .unset, .unset, .unset, .unset, .unset, .unset, .unset, .unset, .unset, .unset, .unset, .unset, .unset, .unset, .unset, .unset, .unset, .unset] [(.int (own_n nn))]) _
            refine XS.istore X12.here hx rfl (hb hby at_41) rfl (l' := #[iv p0, iv p1, iv p2, iv p3, iv p4, iv (own_n nn), rv b1, rv b3, iv (own_n nn), .unset, .unset, .unset, .unset, .unset, .unset, .unset, .unset, .unset, .unset, .unset, .unset, .unset, .unset, .unset, .unset, .unset]) rfl ?_
            refine XT.iconstV X12.here hx rfl (1 : Int32) (hb hby at_43) (by decide) ?_
            refine XS.istore X12.here hx rfl (hb hby at_44) rfl (l' := #[iv p0, iv p1, iv p2, iv p3, iv p4, iv (own_n nn), rv b1, rv b3, iv (own_n nn), iv 1, .unset, .unset, .unset, .unset, .unset, .unset, .unset, .unset, .unset, .unset, .unset, .unset, .unset, .unset, .unset, .unset]) rfl ?_
            refine XS.iloadN X12.here hx rfl (hb hby at_46) rfl ?_
            refine XS.iload X12.here hx rfl (hb hby at_47) rfl ?_
            refine st13 _ ?_
            refine XS.istore X13.here hx rfl (hb hby at_52) rfl (l' := #[iv p0, iv p1, iv p2, iv p3, iv p4, iv (own_n nn), rv b1, rv b3, iv (own_n nn), iv 1, iv (own_n kq13), .unset, .unset, .unset, .unset, .unset, .unset, .unset, .unset, .unset, .unset, .unset, .unset, .unset, .unset, .unset]) rfl ?_
            refine XS.iloadN X13.here hx rfl (hb hby at_54) rfl ?_
            show oS p e below T13 (mkF m 55 #[iv p0, iv p1, iv p2, iv p3, iv p4, iv (own_n nn), rv b1, rv b3, iv (own_n nn), iv 1, iv (own_n kq13), .unset, .unset, .unset, .unset, .unset, .unset, .unset, .unset, .unset, .unset, .unset, .unset, .unset, .unset, .unset] [(.int p1)]) _
            refine XS.iload X13.here hx rfl (hb hby at_55) rfl ?_
            refine st14 _ ?_
            refine XS.istore X14.here hx rfl (hb hby at_60) rfl (l' := #[iv p0, iv p1, iv p2, iv p3, iv p4, iv (own_n nn), rv b1, rv b3, iv (own_n nn), iv 1, iv (own_n kq13), iv (own_n kq14), .unset, .unset, .unset, .unset, .unset, .unset, .unset, .unset, .unset, .unset, .unset, .unset, .unset, .unset]) rfl ?_
            refine XS.aload X14.here hx rfl (hb hby at_62) rfl rfl ?_
            refine XS.iload X14.here hx rfl (hb hby at_64) rfl ?_
            refine XS.iload X14.here hx rfl (hb hby at_66) rfl ?_
            refine st19 _ ?_
            refine XS.istore X19.here hx rfl (hb hby at_71) rfl (l' := #[iv p0, iv p1, iv p2, iv p3, iv p4, iv (own_n nn), rv b1, rv b3, iv (own_n nn), iv 1, iv (own_n kq13), iv (own_n kq14), iv 0, .unset, .unset, .unset, .unset, .unset, .unset, .unset, .unset, .unset, .unset, .unset, .unset, .unset]) rfl ?_
            show oS p e below T19 (mkF m 73 #[iv p0, iv p1, iv p2, iv p3, iv p4, iv (own_n nn), rv b1, rv b3, iv (own_n nn), iv 1, iv (own_n kq13), iv (own_n kq14), iv 0, .unset, .unset, .unset, .unset, .unset, .unset, .unset, .unset, .unset, .unset, .unset, .unset, .unset] []) _
            refine XS.aload X19.here hx rfl (hb hby at_73) rfl rfl ?_
            refine XS.iload X19.here hx rfl (hb hby at_75) rfl ?_
            refine XS.iload X19.here hx rfl (hb hby at_77) rfl ?_
            refine st21 _ ?_
            refine XS.istore X21.here hx rfl (hb hby at_82) rfl (l' := #[iv p0, iv p1, iv p2, iv p3, iv p4, iv (own_n nn), rv b1, rv b3, iv (own_n nn), iv 1, iv (own_n kq13), iv (own_n kq14), iv 0, iv 0, .unset, .unset, .unset, .unset, .unset, .unset, .unset, .unset, .unset, .unset, .unset, .unset]) rfl ?_
            refine XS.iload X21.here hx rfl (hb hby at_84) rfl ?_
            refine XS.ifYes X21.here hx rfl (pc0 := 86) (pc' := 95) rfl (hb hby at_86) rfl (XT.i0_eq_t (by decide)) (by decide) (by decide) ?_
            refine XS.iload X21.here hx rfl (hb hby at_95) rfl ?_
            show oS p e below T21 (mkF m 97 #[iv p0, iv p1, iv p2, iv p3, iv p4, iv (own_n nn), rv b1, rv b3, iv (own_n nn), iv 1, iv (own_n kq13), iv (own_n kq14), iv 0, iv 0, .unset, .unset, .unset, .unset, .unset, .unset, .unset, .unset, .unset, .unset, .unset, .unset] [(.int 1)]) _
            refine XS.ifNo X21.here hx rfl (hb hby at_97) rfl (XT.i0_eq_f (by decide)) ?_
            refine XS.iload X21.here hx rfl (hb hby at_100) rfl ?_
            refine XS.iload X21.here hx rfl (hb hby at_102) rfl ?_
            refine XS.icmpNo X21.here hx rfl (hb hby at_104) rfl (XT.ii_ne_f (by decide)) ?_
            refine XS.aload X21.here hx rfl (hb hby at_107) rfl rfl ?_
            refine st22 _ ?_
            refine XS.iload X22.here hx rfl (hb hby at_112) rfl ?_
            refine XS.icmpNo X22.here hx rfl (hb hby at_114) rfl (XT.ii_ne_f rfl) ?_
            show oS p e below T22 (mkF m 117 #[iv p0, iv p1, iv p2, iv p3, iv p4, iv (own_n nn), rv b1, rv b3, iv (own_n nn), iv 1, iv (own_n kq13), iv (own_n kq14), iv 0, iv 0, .unset, .unset, .unset, .unset, .unset, .unset, .unset, .unset, .unset, .unset, .unset, .unset] []) _
            refine XT.iconstV X22.here hx rfl (1 : Int32) (hb hby at_117) (by decide) ?_
            refine XS.goto X22.here hx rfl (pc0 := 118) (pc' := 122) rfl (hb hby at_118) (by decide) (by decide) ?_
            refine XS.istore X22.here hx rfl (hb hby at_122) rfl (l' := #[iv p0, iv p1, iv p2, iv p3, iv p4, iv (own_n nn), rv b1, rv b3, iv (own_n nn), iv 1, iv (own_n kq13), iv (own_n kq14), iv 0, iv 0, .unset, .unset, .unset, .unset, .unset, .unset, .unset, .unset, .unset, .unset, .unset, .unset]) rfl ?_
            refine XS.iloadN X22.here hx rfl (hb hby at_124) rfl ?_
            refine XS.iload X22.here hx rfl (hb hby at_125) rfl ?_
            refine st24 _ ?_
            refine XS.istore X24.here hx rfl (hb hby at_130) rfl (l' := #[iv p0, iv p1, iv p2, iv p3, iv p4, iv (own_n nn), rv b1, rv b3, iv (own_n nn), iv 1, iv (own_n kq13), iv (own_n kq14), iv 0, iv 0, iv (own_n kq24), .unset, .unset, .unset, .unset, .unset, .unset, .unset, .unset, .unset, .unset, .unset]) rfl ?_
            refine XS.iloadN X24.here hx rfl (hb hby at_132) rfl ?_
            show oS p e below T24 (mkF m 133 #[iv p0, iv p1, iv p2, iv p3, iv p4, iv (own_n nn), rv b1, rv b3, iv (own_n nn), iv 1, iv (own_n kq13), iv (own_n kq14), iv 0, iv 0, iv (own_n kq24), .unset, .unset, .unset, .unset, .unset, .unset, .unset, .unset, .unset, .unset, .unset] [(.int p2)]) _
            refine XS.iload X24.here hx rfl (hb hby at_133) rfl ?_
            refine st25 _ ?_
            refine XS.istore X25.here hx rfl (hb hby at_138) rfl (l' := #[iv p0, iv p1, iv p2, iv p3, iv p4, iv (own_n nn), rv b1, rv b3, iv (own_n nn), iv 1, iv (own_n kq13), iv (own_n kq14), iv 0, iv 0, iv (own_n kq24), iv (own_n kq25), .unset, .unset, .unset, .unset, .unset, .unset, .unset, .unset, .unset, .unset]) rfl ?_
            refine XS.aload X25.here hx rfl (hb hby at_140) rfl rfl ?_
            refine XS.iload X25.here hx rfl (hb hby at_142) rfl ?_
            refine XS.iload X25.here hx rfl (hb hby at_144) rfl ?_
            refine st26 _ ?_
            refine XS.istore X26.here hx rfl (hb hby at_149) rfl (l' := #[iv p0, iv p1, iv p2, iv p3, iv p4, iv (own_n nn), rv b1, rv b3, iv (own_n nn), iv 1, iv (own_n kq13), iv (own_n kq14), iv 0, iv 0, iv (own_n kq24), iv (own_n kq25), iv 1, .unset, .unset, .unset, .unset, .unset, .unset, .unset, .unset, .unset]) rfl ?_
            show oS p e below T26 (mkF m 151 #[iv p0, iv p1, iv p2, iv p3, iv p4, iv (own_n nn), rv b1, rv b3, iv (own_n nn), iv 1, iv (own_n kq13), iv (own_n kq14), iv 0, iv 0, iv (own_n kq24), iv (own_n kq25), iv 1, .unset, .unset, .unset, .unset, .unset, .unset, .unset, .unset, .unset] []) _
            refine XS.aload X26.here hx rfl (hb hby at_151) rfl rfl ?_
            refine XS.iload X26.here hx rfl (hb hby at_153) rfl ?_
            refine XS.iload X26.here hx rfl (hb hby at_155) rfl ?_
            refine st74 _ ?_
            refine XS.istore X74.here hx rfl (hb hby at_160) rfl (l' := #[iv p0, iv p1, iv p2, iv p3, iv p4, iv (own_n nn), rv b1, rv b3, iv (own_n nn), iv 1, iv (own_n kq13), iv (own_n kq14), iv 0, iv 0, iv (own_n kq24), iv (own_n kq25), iv 1, iv 1, .unset, .unset, .unset, .unset, .unset, .unset, .unset, .unset]) rfl ?_
            refine XS.iload X74.here hx rfl (hb hby at_162) rfl ?_
            refine XS.ifNo X74.here hx rfl (hb hby at_164) rfl (XT.i0_eq_f (by decide)) ?_
            refine XS.iload X74.here hx rfl (hb hby at_167) rfl ?_
            show oS p e below T74 (mkF m 169 #[iv p0, iv p1, iv p2, iv p3, iv p4, iv (own_n nn), rv b1, rv b3, iv (own_n nn), iv 1, iv (own_n kq13), iv (own_n kq14), iv 0, iv 0, iv (own_n kq24), iv (own_n kq25), iv 1, iv 1, .unset, .unset, .unset, .unset, .unset, .unset, .unset, .unset] [(.int (own_n nn))]) _
            refine XT.iconstV X74.here hx rfl (1 : Int32) (hb hby at_169) (by decide) ?_
            refine XS.isub X74.here hx rfl (hb hby at_170) rfl ?_
            refine XS.istore X74.here hx rfl (hb hby at_171) rfl (l' := #[iv p0, iv p1, iv p2, iv p3, iv p4, iv (own_n nn), rv b1, rv b3, iv (((own_n nn) - (1 : Int32))), iv 1, iv (own_n kq13), iv (own_n kq14), iv 0, iv 0, iv (own_n kq24), iv (own_n kq25), iv 1, iv 1, .unset, .unset, .unset, .unset, .unset, .unset, .unset, .unset]) rfl ?_
            refine XS.iload X74.here hx rfl (hb hby at_173) rfl ?_
            refine XS.ifNo X74.here hx rfl (hb hby at_175) rfl (XT.i0_eq_f (by decide)) ?_
            refine XS.iload X74.here hx rfl (hb hby at_178) rfl ?_
            refine XS.iload X74.here hx rfl (hb hby at_180) rfl ?_
            refine XS.icmpNo X74.here hx rfl (hb hby at_182) rfl (XT.ii_ne_f (by decide)) ?_
            show oS p e below T74 (mkF m 185 #[iv p0, iv p1, iv p2, iv p3, iv p4, iv (own_n nn), rv b1, rv b3, iv (((own_n nn) - (1 : Int32))), iv 1, iv (own_n kq13), iv (own_n kq14), iv 0, iv 0, iv (own_n kq24), iv (own_n kq25), iv 1, iv 1, .unset, .unset, .unset, .unset, .unset, .unset, .unset, .unset] []) _
            refine XS.aload X74.here hx rfl (hb hby at_185) rfl rfl ?_
            refine st76 _ ?_
            refine XS.iload X76.here hx rfl (hb hby at_190) rfl ?_
            refine XS.icmpNo X76.here hx rfl (hb hby at_192) rfl (XT.ii_ne_f rfl) ?_
            refine XT.iconstV X76.here hx rfl (1 : Int32) (hb hby at_195) (by decide) ?_
            refine XS.goto X76.here hx rfl (pc0 := 196) (pc' := 200) rfl (hb hby at_196) (by decide) (by decide) ?_
            refine XS.istore X76.here hx rfl (hb hby at_200) rfl (l' := #[iv p0, iv p1, iv p2, iv p3, iv p4, iv (own_n nn), rv b1, rv b3, iv (((own_n nn) - (1 : Int32))), iv 1, iv (own_n kq13), iv (own_n kq14), iv 0, iv 0, iv (own_n kq24), iv (own_n kq25), iv 1, iv 1, .unset, .unset, .unset, .unset, .unset, .unset, .unset, .unset]) rfl ?_
            refine XS.iloadN X76.here hx rfl (hb hby at_202) rfl ?_
            show oS p e below T76 (mkF m 203 #[iv p0, iv p1, iv p2, iv p3, iv p4, iv (own_n nn), rv b1, rv b3, iv (((own_n nn) - (1 : Int32))), iv 1, iv (own_n kq13), iv (own_n kq14), iv 0, iv 0, iv (own_n kq24), iv (own_n kq25), iv 1, iv 1, .unset, .unset, .unset, .unset, .unset, .unset, .unset, .unset] [(.int p3)]) _
            refine XS.iload X76.here hx rfl (hb hby at_203) rfl ?_
            refine st78 _ ?_
            refine XS.istore X78.here hx rfl (hb hby at_208) rfl (l' := #[iv p0, iv p1, iv p2, iv p3, iv p4, iv (own_n nn), rv b1, rv b3, iv (((own_n nn) - (1 : Int32))), iv 1, iv (own_n kq13), iv (own_n kq14), iv 0, iv 0, iv (own_n kq24), iv (own_n kq25), iv 1, iv 1, iv (own_n kq78), .unset, .unset, .unset, .unset, .unset, .unset, .unset]) rfl ?_
            refine XS.iloadN X78.here hx rfl (hb hby at_210) rfl ?_
            refine XS.iload X78.here hx rfl (hb hby at_211) rfl ?_
            refine st79 _ ?_
            refine XS.istore X79.here hx rfl (hb hby at_216) rfl (l' := #[iv p0, iv p1, iv p2, iv p3, iv p4, iv (own_n nn), rv b1, rv b3, iv (((own_n nn) - (1 : Int32))), iv 1, iv (own_n kq13), iv (own_n kq14), iv 0, iv 0, iv (own_n kq24), iv (own_n kq25), iv 1, iv 1, iv (own_n kq78), iv (own_n kq79), .unset, .unset, .unset, .unset, .unset, .unset]) rfl ?_
            refine XS.aload X79.here hx rfl (hb hby at_218) rfl rfl ?_
            show oS p e below T79 (mkF m 220 #[iv p0, iv p1, iv p2, iv p3, iv p4, iv (own_n nn), rv b1, rv b3, iv (((own_n nn) - (1 : Int32))), iv 1, iv (own_n kq13), iv (own_n kq14), iv 0, iv 0, iv (own_n kq24), iv (own_n kq25), iv 1, iv 1, iv (own_n kq78), iv (own_n kq79), .unset, .unset, .unset, .unset, .unset, .unset] [(.ref b1)]) _
            refine XS.iload X79.here hx rfl (hb hby at_220) rfl ?_
            refine XS.iload X79.here hx rfl (hb hby at_222) rfl ?_
            refine st82 _ ?_
            refine XS.istore X82.here hx rfl (hb hby at_227) rfl (l' := #[iv p0, iv p1, iv p2, iv p3, iv p4, iv (own_n nn), rv b1, rv b3, iv (((own_n nn) - (1 : Int32))), iv 1, iv (own_n kq13), iv (own_n kq14), iv 0, iv 0, iv (own_n kq24), iv (own_n kq25), iv 1, iv 1, iv (own_n kq78), iv (own_n kq79), iv 0, .unset, .unset, .unset, .unset, .unset]) rfl ?_
            refine XS.aload X82.here hx rfl (hb hby at_229) rfl rfl ?_
            refine XS.iload X82.here hx rfl (hb hby at_231) rfl ?_
            refine XS.iload X82.here hx rfl (hb hby at_233) rfl ?_
            refine st84 _ ?_
            show oS p e below T84 (mkF m 238 #[iv p0, iv p1, iv p2, iv p3, iv p4, iv (own_n nn), rv b1, rv b3, iv (((own_n nn) - (1 : Int32))), iv 1, iv (own_n kq13), iv (own_n kq14), iv 0, iv 0, iv (own_n kq24), iv (own_n kq25), iv 1, iv 1, iv (own_n kq78), iv (own_n kq79), iv 0, .unset, .unset, .unset, .unset, .unset] [(.int 0)]) _
            refine XS.istore X84.here hx rfl (hb hby at_238) rfl (l' := #[iv p0, iv p1, iv p2, iv p3, iv p4, iv (own_n nn), rv b1, rv b3, iv (((own_n nn) - (1 : Int32))), iv 1, iv (own_n kq13), iv (own_n kq14), iv 0, iv 0, iv (own_n kq24), iv (own_n kq25), iv 1, iv 1, iv (own_n kq78), iv (own_n kq79), iv 0, iv 0, .unset, .unset, .unset, .unset]) rfl ?_
            refine XS.iload X84.here hx rfl (hb hby at_240) rfl ?_
            refine XS.ifYes X84.here hx rfl (pc0 := 242) (pc' := 251) rfl (hb hby at_242) rfl (XT.i0_eq_t (by decide)) (by decide) (by decide) ?_
            refine XS.iload X84.here hx rfl (hb hby at_251) rfl ?_
            refine XS.ifNo X84.here hx rfl (hb hby at_253) rfl (XT.i0_eq_f (by decide)) ?_
            refine XS.iload X84.here hx rfl (hb hby at_256) rfl ?_
            refine XS.iload X84.here hx rfl (hb hby at_258) rfl ?_
            refine XS.icmpNo X84.here hx rfl (hb hby at_260) rfl (XT.ii_ne_f (by decide)) ?_
            show oS p e below T84 (mkF m 263 #[iv p0, iv p1, iv p2, iv p3, iv p4, iv (own_n nn), rv b1, rv b3, iv (((own_n nn) - (1 : Int32))), iv 1, iv (own_n kq13), iv (own_n kq14), iv 0, iv 0, iv (own_n kq24), iv (own_n kq25), iv 1, iv 1, iv (own_n kq78), iv (own_n kq79), iv 0, iv 0, .unset, .unset, .unset, .unset] []) _
            refine XS.aload X84.here hx rfl (hb hby at_263) rfl rfl ?_
            refine st85 _ ?_
            refine XS.iload X85.here hx rfl (hb hby at_268) rfl ?_
            refine XS.icmpNo X85.here hx rfl (hb hby at_270) rfl (XT.ii_ne_f rfl) ?_
            refine XT.iconstV X85.here hx rfl (1 : Int32) (hb hby at_273) (by decide) ?_
            refine XS.goto X85.here hx rfl (pc0 := 274) (pc' := 278) rfl (hb hby at_274) (by decide) (by decide) ?_
            refine XS.istore X85.here hx rfl (hb hby at_278) rfl (l' := #[iv p0, iv p1, iv p2, iv p3, iv p4, iv (own_n nn), rv b1, rv b3, iv (((own_n nn) - (1 : Int32))), iv 1, iv (own_n kq13), iv (own_n kq14), iv 0, iv 0, iv (own_n kq24), iv (own_n kq25), iv 1, iv 1, iv (own_n kq78), iv (own_n kq79), iv 0, iv 0, .unset, .unset, .unset, .unset]) rfl ?_
            refine XS.iload X85.here hx rfl (hb hby at_280) rfl ?_
            show oS p e below T85 (mkF m 282 #[iv p0, iv p1, iv p2, iv p3, iv p4, iv (own_n nn), rv b1, rv b3, iv (((own_n nn) - (1 : Int32))), iv 1, iv (own_n kq13), iv (own_n kq14), iv 0, iv 0, iv (own_n kq24), iv (own_n kq25), iv 1, iv 1, iv (own_n kq78), iv (own_n kq79), iv 0, iv 0, .unset, .unset, .unset, .unset] [(.int p4)]) _
            refine XS.iload X85.here hx rfl (hb hby at_282) rfl ?_
            refine st87 _ ?_
            refine XS.istore X87.here hx rfl (hb hby at_287) rfl (l' := #[iv p0, iv p1, iv p2, iv p3, iv p4, iv (own_n nn), rv b1, rv b3, iv (((own_n nn) - (1 : Int32))), iv 1, iv (own_n kq13), iv (own_n kq14), iv 0, iv 0, iv (own_n kq24), iv (own_n kq25), iv 1, iv 1, iv (own_n kq78), iv (own_n kq79), iv 0, iv 0, iv (own_n kq87), .unset, .unset, .unset]) rfl ?_
            refine XS.iload X87.here hx rfl (hb hby at_289) rfl ?_
            refine XS.iload X87.here hx rfl (hb hby at_291) rfl ?_
            refine st88 _ ?_
            refine XS.istore X88.here hx rfl (hb hby at_296) rfl (l' := #[iv p0, iv p1, iv p2, iv p3, iv p4, iv (own_n nn), rv b1, rv b3, iv (((own_n nn) - (1 : Int32))), iv 1, iv (own_n kq13), iv (own_n kq14), iv 0, iv 0, iv (own_n kq24), iv (own_n kq25), iv 1, iv 1, iv (own_n kq78), iv (own_n kq79), iv 0, iv 0, iv (own_n kq87), iv (own_n kq88), .unset, .unset]) rfl ?_
            refine XS.aload X88.here hx rfl (hb hby at_298) rfl rfl ?_
            show oS p e below T88 (mkF m 300 #[iv p0, iv p1, iv p2, iv p3, iv p4, iv (own_n nn), rv b1, rv b3, iv (((own_n nn) - (1 : Int32))), iv 1, iv (own_n kq13), iv (own_n kq14), iv 0, iv 0, iv (own_n kq24), iv (own_n kq25), iv 1, iv 1, iv (own_n kq78), iv (own_n kq79), iv 0, iv 0, iv (own_n kq87), iv (own_n kq88), .unset, .unset] [(.ref b1)]) _
            refine XS.iload X88.here hx rfl (hb hby at_300) rfl ?_
            refine XS.iload X88.here hx rfl (hb hby at_302) rfl ?_
            refine st89 _ ?_
            refine XS.istore X89.here hx rfl (hb hby at_307) rfl (l' := #[iv p0, iv p1, iv p2, iv p3, iv p4, iv (own_n nn), rv b1, rv b3, iv (((own_n nn) - (1 : Int32))), iv 1, iv (own_n kq13), iv (own_n kq14), iv 0, iv 0, iv (own_n kq24), iv (own_n kq25), iv 1, iv 1, iv (own_n kq78), iv (own_n kq79), iv 0, iv 0, iv (own_n kq87), iv (own_n kq88), iv 0, .unset]) rfl ?_
            refine XS.aload X89.here hx rfl (hb hby at_309) rfl rfl ?_
            refine XS.iload X89.here hx rfl (hb hby at_311) rfl ?_
            refine XS.iload X89.here hx rfl (hb hby at_313) rfl ?_
            refine st91 _ ?_
            show oS p e below T91 (mkF m 318 #[iv p0, iv p1, iv p2, iv p3, iv p4, iv (own_n nn), rv b1, rv b3, iv (((own_n nn) - (1 : Int32))), iv 1, iv (own_n kq13), iv (own_n kq14), iv 0, iv 0, iv (own_n kq24), iv (own_n kq25), iv 1, iv 1, iv (own_n kq78), iv (own_n kq79), iv 0, iv 0, iv (own_n kq87), iv (own_n kq88), iv 0, .unset] [(.int 0)]) _
            refine XS.istore X91.here hx rfl (hb hby at_318) rfl (l' := #[iv p0, iv p1, iv p2, iv p3, iv p4, iv (own_n nn), rv b1, rv b3, iv (((own_n nn) - (1 : Int32))), iv 1, iv (own_n kq13), iv (own_n kq14), iv 0, iv 0, iv (own_n kq24), iv (own_n kq25), iv 1, iv 1, iv (own_n kq78), iv (own_n kq79), iv 0, iv 0, iv (own_n kq87), iv (own_n kq88), iv 0, iv 0]) rfl ?_
            refine XS.iload X91.here hx rfl (hb hby at_320) rfl ?_
            refine XS.ifYes X91.here hx rfl (pc0 := 322) (pc' := 331) rfl (hb hby at_322) rfl (XT.i0_eq_t (by decide)) (by decide) (by decide) ?_
            refine XS.iload X91.here hx rfl (hb hby at_331) rfl ?_
            refine XS.ifNo X91.here hx rfl (hb hby at_333) rfl (XT.i0_eq_f (by decide)) ?_
            refine XS.iload X91.here hx rfl (hb hby at_336) rfl ?_
            refine XS.iload X91.here hx rfl (hb hby at_338) rfl ?_
            refine XS.icmpNo X91.here hx rfl (hb hby at_340) rfl (XT.ii_ne_f (by decide)) ?_
            show oS p e below T91 (mkF m 343 #[iv p0, iv p1, iv p2, iv p3, iv p4, iv (own_n nn), rv b1, rv b3, iv (((own_n nn) - (1 : Int32))), iv 1, iv (own_n kq13), iv (own_n kq14), iv 0, iv 0, iv (own_n kq24), iv (own_n kq25), iv 1, iv 1, iv (own_n kq78), iv (own_n kq79), iv 0, iv 0, iv (own_n kq87), iv (own_n kq88), iv 0, iv 0] []) _
            refine XS.aload X91.here hx rfl (hb hby at_343) rfl rfl ?_
            refine st92 _ ?_
            refine XS.iload X92.here hx rfl (hb hby at_348) rfl ?_
            refine XS.icmpNo X92.here hx rfl (hb hby at_350) rfl (XT.ii_ne_f rfl) ?_
            refine XT.iconstV X92.here hx rfl (1 : Int32) (hb hby at_353) (by decide) ?_
            refine XS.goto X92.here hx rfl (pc0 := 354) (pc' := 358) rfl (hb hby at_354) (by decide) (by decide) ?_
            refine XS.istore X92.here hx rfl (hb hby at_358) rfl (l' := #[iv p0, iv p1, iv p2, iv p3, iv p4, iv (own_n nn), rv b1, rv b3, iv (((own_n nn) - (1 : Int32))), iv 1, iv (own_n kq13), iv (own_n kq14), iv 0, iv 0, iv (own_n kq24), iv (own_n kq25), iv 1, iv 1, iv (own_n kq78), iv (own_n kq79), iv 0, iv 0, iv (own_n kq87), iv (own_n kq88), iv 0, iv 0]) rfl ?_
            refine XS.iload X92.here hx rfl (hb hby at_360) rfl ?_
            show oS p e below T92 (mkF m 362 #[iv p0, iv p1, iv p2, iv p3, iv p4, iv (own_n nn), rv b1, rv b3, iv (((own_n nn) - (1 : Int32))), iv 1, iv (own_n kq13), iv (own_n kq14), iv 0, iv 0, iv (own_n kq24), iv (own_n kq25), iv 1, iv 1, iv (own_n kq78), iv (own_n kq79), iv 0, iv 0, iv (own_n kq87), iv (own_n kq88), iv 0, iv 0] [(.int 1)]) _
            exact kz)
          obtain ⟨fs, hr, hrun, hended, hW, hsame⟩ := X92.leave (v := some (.int 1)) (fun h => by rw [Bd.returns] at h; cases h)
          refine ⟨_, _, pre0 _ (S94 _ ?_), hrun, hended, _, _, rfl, ?_, ⟨_, rfl⟩, hW, hsame.mono (by decide) (by decide)⟩
          · exact retN X92 hx (t := .boolean) Bd.returns (by simp) (hb hby at_362) hr
          · show Qrm0s Z p0 p1 p2 p3 p4 nn h0 n0 _ T92.heap _
            rw [e92]
            exact ⟨rfl, N92⟩
        · have N89 := Fr.app N88 N89q
          have e89 : T89.heap = T89.heap := rfl
          have Zk89 : n0 ≤ T89.heap.size := Nat.le_trans Zk82 K89.1
          have Kk89 : Keep h0 T89.heap [] := Kk82.trans K89 (allS (Or.inr sz_b1) (allS (Or.inr sz_b2') all0))
          have f95 := (f83.keep K89 (ninS (Ne.symm ne_b1_b3) (ninS (Ne.symm ne_b2'_b3) nin0)))
          obtain ⟨_, T96, Lc96, X96, hQ96, st96⟩ := own_callS (W := 0) (y := mN5) X89 hx hZ hown (hw _ (own_w 30 rfl)) (hw _ (own_w 31 rfl)) (hw _ (own_w 16 rfl)) (hw _ (own_w 32 rfl)) (by decide) (rmRef1 l Z av0 hw [] b3 k3 (own_L own_n (own_n kq24) (own_n kq25)) kq87 kq88 T89.heap n0 Zk89 f95 (Nat.lt_of_lt_of_le lq87 hnn) (Nat.lt_of_lt_of_le lq88 hnn) ge_b3 (fun q => rs89 ((RL74 _ lq87 _ lq88).mpr q))) (by decide) (by decide) (g := (mkF m 315 #[iv p0, iv p1, iv p2, iv p3, iv p4, iv (own_n nn), rv b1, rv b3, iv (((own_n nn) - (1 : Int32))), iv 1, iv (own_n kq13), iv (own_n kq14), iv 0, iv 0, iv (own_n kq24), iv (own_n kq25), iv 1, iv 1, iv (own_n kq78), iv (own_n kq79), iv 0, iv 0, iv (own_n kq87), iv (own_n kq88), iv 1, .unset] [(.int (own_n kq88)), (.int (own_n kq87)), (.ref b3)])) rfl (by rw [hml]; rfl) (argsL := [(.ref b3), (.int (own_n kq87)), (.int (own_n kq88))]) (rest := []) (lenOf pd__III_Z rfl) rfl (hb hby at_315) rfl e89 (by decide : 3 + 0 ≤ _) (by decide : 10 + 0 ≤ _)
          obtain ⟨rfl, N96q, K96, B96⟩ := hQ96
          have N96 := Fr.app N89 N96q
          have e96 : T96.heap = T96.heap := rfl
          have Zk96 : n0 ≤ T96.heap.size := Nat.le_trans Zk89 K96.1
          have Kk96 : Keep h0 T96.heap [] := Kk89.trans K96 (allS (Or.inr sz_b3) all0)
          have RL96 := own_RL RL74 lq87 lq88
          have f97 := (C89.keep K96 (ninS ne_b1_b3 nin0))
          have f99 := ((f86.keep K89).keep K96)
          obtain ⟨_, T98, Lc98, X98, hQ98, st98⟩ := own_virtual (W := 0) (y := mN0) (z := mN0) X96 hx hZ hown (hw _ (own_w 33 rfl)) (hw _ (own_w 34 rfl)) (notFace_of_selects (args := #[]) (mvT hZ (hw _ (own_w 36 rfl)))) (hw _ (own_w 36 rfl)) (hw _ (own_w 35 rfl)) (hw _ (own_w 37 rfl)) (hw _ (own_w 2 rfl)) (by decide) (rmCount l Z av0 hw [] b1 (((own_n nn) - (1 : Int32)) - (1 : Int32)) T96.heap n0 Zk96 f97) (by decide) (by decide) f99 (g := (mkF m 345 #[iv p0, iv p1, iv p2, iv p3, iv p4, iv (own_n nn), rv b1, rv b3, iv ((((own_n nn) - (1 : Int32)) - (1 : Int32))), iv 1, iv (own_n kq13), iv (own_n kq14), iv 0, iv 0, iv (own_n kq24), iv (own_n kq25), iv 1, iv 1, iv (own_n kq78), iv (own_n kq79), iv 0, iv 0, iv (own_n kq87), iv (own_n kq88), iv 1, iv 1] [(.ref b1)])) rfl (by rw [hml]; rfl) (argsL := []) (rest := []) (lenOf pd__I rfl) rfl (hb hby at_345) rfl e96 (by decide : 3 + 0 ≤ _) (by decide : 10 + 0 ≤ _)
          obtain ⟨rfl, N98q, hh98⟩ := hQ98
          have N98 := Fr.app N96 N98q
          have e98 : T98.heap = T96.heap := hh98
          have S100 : ∀ tz, oS p e below T98 (mkF m 362 #[iv p0, iv p1, iv p2, iv p3, iv p4, iv (own_n nn), rv b1, rv b3, iv ((((own_n nn) - (1 : Int32)) - (1 : Int32))), iv 1, iv (own_n kq13), iv (own_n kq14), iv 0, iv 0, iv (own_n kq24), iv (own_n kq25), iv 1, iv 1, iv (own_n kq78), iv (own_n kq79), iv 0, iv 0, iv (own_n kq87), iv (own_n kq88), iv 1, iv 1] [(.int 1)]) tz → oS p e below s₁ (mkF m 0 #[iv p0, iv p1, iv p2, iv p3, iv p4, .unset, .unset, .unset, .unset, .unset, .unset, .unset, .unset, .unset, .unset, .unset, .unset, .unset, .unset, .unset, .unset, .unset, .unset, .unset, .unset, .unset] []) tz := fun tz kz => id (by
            show oS p e below s₁ (mkF m 0 #[iv p0, iv p1, iv p2, iv p3, iv p4, .unset, .unset, .unset, .unset, .unset, .unset, .unset, .unset, .unset, .unset, .unset, .unset, .unset, .unset, .unset, .unset, .unset, .unset, .unset, .unset, .unset] []) _
            refine XT.iconstV X0.here hx rfl (1 : Int32) (hb hby at_0) (by decide) ?_
            refine XS.iloadN X0.here hx rfl (hb hby at_1) rfl ?_
            refine XT.iconstV X0.here hx rfl (3 : Int32) (hb hby at_2) (by decide) ?_
            refine XS.iand X0.here hx rfl (hb hby at_3) rfl ?_
            refine XS.iadd X0.here hx rfl (hb hby at_4) rfl ?_
            show oS p e below s₁ (mkF m 5 #[iv p0, iv p1, iv p2, iv p3, iv p4, .unset, .unset, .unset, .unset, .unset, .unset, .unset, .unset, .unset, .unset, .unset, .unset, .unset, .unset, .unset, .unset, .unset, .unset, .unset, .unset, .unset] [(.int ((1 : Int32) + (p0 &&& (3 : Int32))))]) _
            rw [hn]
            show oS p e below s₁ (mkF m 5 #[iv p0, iv p1, iv p2, iv p3, iv p4, .unset, .unset, .unset, .unset, .unset, .unset, .unset, .unset, .unset, .unset, .unset, .unset, .unset, .unset, .unset, .unset, .unset, .unset, .unset, .unset, .unset] [(.int (own_n nn))]) _
            refine XS.istore X0.here hx rfl (hb hby at_5) rfl (l' := #[iv p0, iv p1, iv p2, iv p3, iv p4, iv (own_n nn), .unset, .unset, .unset, .unset, .unset, .unset, .unset, .unset, .unset, .unset, .unset, .unset, .unset, .unset, .unset, .unset, .unset, .unset, .unset, .unset]) rfl ?_
            refine st1 _ ?_
            show oS p e below T1 (mkF m 10 #[iv p0, iv p1, iv p2, iv p3, iv p4, iv (own_n nn), .unset, .unset, .unset, .unset, .unset, .unset, .unset, .unset, .unset, .unset, .unset, .unset, .unset, .unset, .unset, .unset, .unset, .unset, .unset, .unset] [(.ref b1)]) _
            refine XS.dup X1.here hx rfl (hb hby at_10) rfl rfl ?_
            refine XS.iload X1.here hx rfl (hb hby at_11) rfl ?_
            refine st2 _ ?_
            refine XS.astore X2.here hx rfl (hb hby at_16) rfl rfl (l' := #[iv p0, iv p1, iv p2, iv p3, iv p4, iv (own_n nn), rv b1, .unset, .unset, .unset, .unset, .unset, .unset, .unset, .unset, .unset, .unset, .unset, .unset, .unset, .unset, .unset, .unset, .unset, .unset, .unset]) rfl ?_
            refine XT.iconstV X2.here hx rfl (4 : Int32) (hb hby at_18) (by decide) ?_
            refine st3 _ ?_
            refine XS.dup X3.here hx rfl (hb hby at_21) rfl rfl ?_
            refine XT.iconstV X3.here hx rfl (0 : Int32) (hb hby at_22) (by decide) ?_
            show oS p e below T3 (mkF m 23 #[iv p0, iv p1, iv p2, iv p3, iv p4, iv (own_n nn), rv b1, .unset, .unset, .unset, .unset, .unset, .unset, .unset, .unset, .unset, .unset, .unset, .unset, .unset, .unset, .unset, .unset, .unset, .unset, .unset] [(.int 0), (.ref b3), (.ref b3)]) _
            refine XT.iconstV X3.here hx rfl (0 : Int32) (hb hby at_23) (by decide) ?_
            refine st6 _ ?_
            refine XS.dup X6.here hx rfl (hb hby at_25) rfl rfl ?_
            refine XT.iconstV X6.here hx rfl (1 : Int32) (hb hby at_26) (by decide) ?_
            refine XT.iconstV X6.here hx rfl (1 : Int32) (hb hby at_27) (by decide) ?_
            refine st8 _ ?_
            refine XS.dup X8.here hx rfl (hb hby at_29) rfl rfl ?_
            refine XT.iconstV X8.here hx rfl (2 : Int32) (hb hby at_30) (by decide) ?_
            show oS p e below T8 (mkF m 31 #[iv p0, iv p1, iv p2, iv p3, iv p4, iv (own_n nn), rv b1, .unset, .unset, .unset, .unset, .unset, .unset, .unset, .unset, .unset, .unset, .unset, .unset, .unset, .unset, .unset, .unset, .unset, .unset, .unset] [(.int 2), (.ref b3), (.ref b3)]) _
            refine XT.iconstV X8.here hx rfl (2 : Int32) (hb hby at_31) (by decide) ?_
            refine st10 _ ?_
            refine XS.dup X10.here hx rfl (hb hby at_33) rfl rfl ?_
            refine XT.iconstV X10.here hx rfl (3 : Int32) (hb hby at_34) (by decide) ?_
            refine XT.iconstV X10.here hx rfl (3 : Int32) (hb hby at_35) (by decide) ?_
            refine st12 _ ?_
            refine XS.astore X12.here hx rfl (hb hby at_37) rfl rfl (l' := #[iv p0, iv p1, iv p2, iv p3, iv p4, iv (own_n nn), rv b1, rv b3, .unset, .unset, .unset, .unset, .unset, .unset, .unset, .unset, .unset, .unset, .unset, .unset, .unset, .unset, .unset, .unset, .unset, .unset]) rfl ?_
            refine XS.iload X12.here hx rfl (hb hby at_39) rfl ?_
            show oS p e below T12 (mkF m 41 #[iv p0, iv p1, iv p2, iv p3, iv p4, iv (own_n nn), rv b1, rv b3, .unset, .unset, .unset, .unset, .unset, .unset, .unset, .unset, .unset, .unset, .unset, .unset, .unset, .unset, .unset, .unset, .unset, .unset] [(.int (own_n nn))]) _
            refine XS.istore X12.here hx rfl (hb hby at_41) rfl (l' := #[iv p0, iv p1, iv p2, iv p3, iv p4, iv (own_n nn), rv b1, rv b3, iv (own_n nn), .unset, .unset, .unset, .unset, .unset, .unset, .unset, .unset, .unset, .unset, .unset, .unset, .unset, .unset, .unset, .unset, .unset]) rfl ?_
            refine XT.iconstV X12.here hx rfl (1 : Int32) (hb hby at_43) (by decide) ?_
            refine XS.istore X12.here hx rfl (hb hby at_44) rfl (l' := #[iv p0, iv p1, iv p2, iv p3, iv p4, iv (own_n nn), rv b1, rv b3, iv (own_n nn), iv 1, .unset, .unset, .unset, .unset, .unset, .unset, .unset, .unset, .unset, .unset, .unset, .unset, .unset, .unset, .unset, .unset]) rfl ?_
            refine XS.iloadN X12.here hx rfl (hb hby at_46) rfl ?_
            refine XS.iload X12.here hx rfl (hb hby at_47) rfl ?_
            refine st13 _ ?_
            refine XS.istore X13.here hx rfl (hb hby at_52) rfl (l' := #[iv p0, iv p1, iv p2, iv p3, iv p4, iv (own_n nn), rv b1, rv b3, iv (own_n nn), iv 1, iv (own_n kq13), .unset, .unset, .unset, .unset, .unset, .unset, .unset, .unset, .unset, .unset, .unset, .unset, .unset, .unset, .unset]) rfl ?_
            refine XS.iloadN X13.here hx rfl (hb hby at_54) rfl ?_
            show oS p e below T13 (mkF m 55 #[iv p0, iv p1, iv p2, iv p3, iv p4, iv (own_n nn), rv b1, rv b3, iv (own_n nn), iv 1, iv (own_n kq13), .unset, .unset, .unset, .unset, .unset, .unset, .unset, .unset, .unset, .unset, .unset, .unset, .unset, .unset, .unset] [(.int p1)]) _
            refine XS.iload X13.here hx rfl (hb hby at_55) rfl ?_
            refine st14 _ ?_
            refine XS.istore X14.here hx rfl (hb hby at_60) rfl (l' := #[iv p0, iv p1, iv p2, iv p3, iv p4, iv (own_n nn), rv b1, rv b3, iv (own_n nn), iv 1, iv (own_n kq13), iv (own_n kq14), .unset, .unset, .unset, .unset, .unset, .unset, .unset, .unset, .unset, .unset, .unset, .unset, .unset, .unset]) rfl ?_
            refine XS.aload X14.here hx rfl (hb hby at_62) rfl rfl ?_
            refine XS.iload X14.here hx rfl (hb hby at_64) rfl ?_
            refine XS.iload X14.here hx rfl (hb hby at_66) rfl ?_
            refine st19 _ ?_
            refine XS.istore X19.here hx rfl (hb hby at_71) rfl (l' := #[iv p0, iv p1, iv p2, iv p3, iv p4, iv (own_n nn), rv b1, rv b3, iv (own_n nn), iv 1, iv (own_n kq13), iv (own_n kq14), iv 0, .unset, .unset, .unset, .unset, .unset, .unset, .unset, .unset, .unset, .unset, .unset, .unset, .unset]) rfl ?_
            show oS p e below T19 (mkF m 73 #[iv p0, iv p1, iv p2, iv p3, iv p4, iv (own_n nn), rv b1, rv b3, iv (own_n nn), iv 1, iv (own_n kq13), iv (own_n kq14), iv 0, .unset, .unset, .unset, .unset, .unset, .unset, .unset, .unset, .unset, .unset, .unset, .unset, .unset] []) _
            refine XS.aload X19.here hx rfl (hb hby at_73) rfl rfl ?_
            refine XS.iload X19.here hx rfl (hb hby at_75) rfl ?_
            refine XS.iload X19.here hx rfl (hb hby at_77) rfl ?_
            refine st21 _ ?_
            refine XS.istore X21.here hx rfl (hb hby at_82) rfl (l' := #[iv p0, iv p1, iv p2, iv p3, iv p4, iv (own_n nn), rv b1, rv b3, iv (own_n nn), iv 1, iv (own_n kq13), iv (own_n kq14), iv 0, iv 0, .unset, .unset, .unset, .unset, .unset, .unset, .unset, .unset, .unset, .unset, .unset, .unset]) rfl ?_
            refine XS.iload X21.here hx rfl (hb hby at_84) rfl ?_
            refine XS.ifYes X21.here hx rfl (pc0 := 86) (pc' := 95) rfl (hb hby at_86) rfl (XT.i0_eq_t (by decide)) (by decide) (by decide) ?_
            refine XS.iload X21.here hx rfl (hb hby at_95) rfl ?_
            show oS p e below T21 (mkF m 97 #[iv p0, iv p1, iv p2, iv p3, iv p4, iv (own_n nn), rv b1, rv b3, iv (own_n nn), iv 1, iv (own_n kq13), iv (own_n kq14), iv 0, iv 0, .unset, .unset, .unset, .unset, .unset, .unset, .unset, .unset, .unset, .unset, .unset, .unset] [(.int 1)]) _
            refine XS.ifNo X21.here hx rfl (hb hby at_97) rfl (XT.i0_eq_f (by decide)) ?_
            refine XS.iload X21.here hx rfl (hb hby at_100) rfl ?_
            refine XS.iload X21.here hx rfl (hb hby at_102) rfl ?_
            refine XS.icmpNo X21.here hx rfl (hb hby at_104) rfl (XT.ii_ne_f (by decide)) ?_
            refine XS.aload X21.here hx rfl (hb hby at_107) rfl rfl ?_
            refine st22 _ ?_
            refine XS.iload X22.here hx rfl (hb hby at_112) rfl ?_
            refine XS.icmpNo X22.here hx rfl (hb hby at_114) rfl (XT.ii_ne_f rfl) ?_
            show oS p e below T22 (mkF m 117 #[iv p0, iv p1, iv p2, iv p3, iv p4, iv (own_n nn), rv b1, rv b3, iv (own_n nn), iv 1, iv (own_n kq13), iv (own_n kq14), iv 0, iv 0, .unset, .unset, .unset, .unset, .unset, .unset, .unset, .unset, .unset, .unset, .unset, .unset] []) _
            refine XT.iconstV X22.here hx rfl (1 : Int32) (hb hby at_117) (by decide) ?_
            refine XS.goto X22.here hx rfl (pc0 := 118) (pc' := 122) rfl (hb hby at_118) (by decide) (by decide) ?_
            refine XS.istore X22.here hx rfl (hb hby at_122) rfl (l' := #[iv p0, iv p1, iv p2, iv p3, iv p4, iv (own_n nn), rv b1, rv b3, iv (own_n nn), iv 1, iv (own_n kq13), iv (own_n kq14), iv 0, iv 0, .unset, .unset, .unset, .unset, .unset, .unset, .unset, .unset, .unset, .unset, .unset, .unset]) rfl ?_
            refine XS.iloadN X22.here hx rfl (hb hby at_124) rfl ?_
            refine XS.iload X22.here hx rfl (hb hby at_125) rfl ?_
            refine st24 _ ?_
            refine XS.istore X24.here hx rfl (hb hby at_130) rfl (l' := #[iv p0, iv p1, iv p2, iv p3, iv p4, iv (own_n nn), rv b1, rv b3, iv (own_n nn), iv 1, iv (own_n kq13), iv (own_n kq14), iv 0, iv 0, iv (own_n kq24), .unset, .unset, .unset, .unset, .unset, .unset, .unset, .unset, .unset, .unset, .unset]) rfl ?_
            refine XS.iloadN X24.here hx rfl (hb hby at_132) rfl ?_
            show oS p e below T24 (mkF m 133 #[iv p0, iv p1, iv p2, iv p3, iv p4, iv (own_n nn), rv b1, rv b3, iv (own_n nn), iv 1, iv (own_n kq13), iv (own_n kq14), iv 0, iv 0, iv (own_n kq24), .unset, .unset, .unset, .unset, .unset, .unset, .unset, .unset, .unset, .unset, .unset] [(.int p2)]) _
            refine XS.iload X24.here hx rfl (hb hby at_133) rfl ?_
            refine st25 _ ?_
            refine XS.istore X25.here hx rfl (hb hby at_138) rfl (l' := #[iv p0, iv p1, iv p2, iv p3, iv p4, iv (own_n nn), rv b1, rv b3, iv (own_n nn), iv 1, iv (own_n kq13), iv (own_n kq14), iv 0, iv 0, iv (own_n kq24), iv (own_n kq25), .unset, .unset, .unset, .unset, .unset, .unset, .unset, .unset, .unset, .unset]) rfl ?_
            refine XS.aload X25.here hx rfl (hb hby at_140) rfl rfl ?_
            refine XS.iload X25.here hx rfl (hb hby at_142) rfl ?_
            refine XS.iload X25.here hx rfl (hb hby at_144) rfl ?_
            refine st26 _ ?_
            refine XS.istore X26.here hx rfl (hb hby at_149) rfl (l' := #[iv p0, iv p1, iv p2, iv p3, iv p4, iv (own_n nn), rv b1, rv b3, iv (own_n nn), iv 1, iv (own_n kq13), iv (own_n kq14), iv 0, iv 0, iv (own_n kq24), iv (own_n kq25), iv 1, .unset, .unset, .unset, .unset, .unset, .unset, .unset, .unset, .unset]) rfl ?_
            show oS p e below T26 (mkF m 151 #[iv p0, iv p1, iv p2, iv p3, iv p4, iv (own_n nn), rv b1, rv b3, iv (own_n nn), iv 1, iv (own_n kq13), iv (own_n kq14), iv 0, iv 0, iv (own_n kq24), iv (own_n kq25), iv 1, .unset, .unset, .unset, .unset, .unset, .unset, .unset, .unset, .unset] []) _
            refine XS.aload X26.here hx rfl (hb hby at_151) rfl rfl ?_
            refine XS.iload X26.here hx rfl (hb hby at_153) rfl ?_
            refine XS.iload X26.here hx rfl (hb hby at_155) rfl ?_
            refine st74 _ ?_
            refine XS.istore X74.here hx rfl (hb hby at_160) rfl (l' := #[iv p0, iv p1, iv p2, iv p3, iv p4, iv (own_n nn), rv b1, rv b3, iv (own_n nn), iv 1, iv (own_n kq13), iv (own_n kq14), iv 0, iv 0, iv (own_n kq24), iv (own_n kq25), iv 1, iv 1, .unset, .unset, .unset, .unset, .unset, .unset, .unset, .unset]) rfl ?_
            refine XS.iload X74.here hx rfl (hb hby at_162) rfl ?_
            refine XS.ifNo X74.here hx rfl (hb hby at_164) rfl (XT.i0_eq_f (by decide)) ?_
            refine XS.iload X74.here hx rfl (hb hby at_167) rfl ?_
            show oS p e below T74 (mkF m 169 #[iv p0, iv p1, iv p2, iv p3, iv p4, iv (own_n nn), rv b1, rv b3, iv (own_n nn), iv 1, iv (own_n kq13), iv (own_n kq14), iv 0, iv 0, iv (own_n kq24), iv (own_n kq25), iv 1, iv 1, .unset, .unset, .unset, .unset, .unset, .unset, .unset, .unset] [(.int (own_n nn))]) _
            refine XT.iconstV X74.here hx rfl (1 : Int32) (hb hby at_169) (by decide) ?_
            refine XS.isub X74.here hx rfl (hb hby at_170) rfl ?_
            refine XS.istore X74.here hx rfl (hb hby at_171) rfl (l' := #[iv p0, iv p1, iv p2, iv p3, iv p4, iv (own_n nn), rv b1, rv b3, iv (((own_n nn) - (1 : Int32))), iv 1, iv (own_n kq13), iv (own_n kq14), iv 0, iv 0, iv (own_n kq24), iv (own_n kq25), iv 1, iv 1, .unset, .unset, .unset, .unset, .unset, .unset, .unset, .unset]) rfl ?_
            refine XS.iload X74.here hx rfl (hb hby at_173) rfl ?_
            refine XS.ifNo X74.here hx rfl (hb hby at_175) rfl (XT.i0_eq_f (by decide)) ?_
            refine XS.iload X74.here hx rfl (hb hby at_178) rfl ?_
            refine XS.iload X74.here hx rfl (hb hby at_180) rfl ?_
            refine XS.icmpNo X74.here hx rfl (hb hby at_182) rfl (XT.ii_ne_f (by decide)) ?_
            show oS p e below T74 (mkF m 185 #[iv p0, iv p1, iv p2, iv p3, iv p4, iv (own_n nn), rv b1, rv b3, iv (((own_n nn) - (1 : Int32))), iv 1, iv (own_n kq13), iv (own_n kq14), iv 0, iv 0, iv (own_n kq24), iv (own_n kq25), iv 1, iv 1, .unset, .unset, .unset, .unset, .unset, .unset, .unset, .unset] []) _
            refine XS.aload X74.here hx rfl (hb hby at_185) rfl rfl ?_
            refine st76 _ ?_
            refine XS.iload X76.here hx rfl (hb hby at_190) rfl ?_
            refine XS.icmpNo X76.here hx rfl (hb hby at_192) rfl (XT.ii_ne_f rfl) ?_
            refine XT.iconstV X76.here hx rfl (1 : Int32) (hb hby at_195) (by decide) ?_
            refine XS.goto X76.here hx rfl (pc0 := 196) (pc' := 200) rfl (hb hby at_196) (by decide) (by decide) ?_
            refine XS.istore X76.here hx rfl (hb hby at_200) rfl (l' := #[iv p0, iv p1, iv p2, iv p3, iv p4, iv (own_n nn), rv b1, rv b3, iv (((own_n nn) - (1 : Int32))), iv 1, iv (own_n kq13), iv (own_n kq14), iv 0, iv 0, iv (own_n kq24), iv (own_n kq25), iv 1, iv 1, .unset, .unset, .unset, .unset, .unset, .unset, .unset, .unset]) rfl ?_
            refine XS.iloadN X76.here hx rfl (hb hby at_202) rfl ?_
            show oS p e below T76 (mkF m 203 #[iv p0, iv p1, iv p2, iv p3, iv p4, iv (own_n nn), rv b1, rv b3, iv (((own_n nn) - (1 : Int32))), iv 1, iv (own_n kq13), iv (own_n kq14), iv 0, iv 0, iv (own_n kq24), iv (own_n kq25), iv 1, iv 1, .unset, .unset, .unset, .unset, .unset, .unset, .unset, .unset] [(.int p3)]) _
            refine XS.iload X76.here hx rfl (hb hby at_203) rfl ?_
            refine st78 _ ?_
            refine XS.istore X78.here hx rfl (hb hby at_208) rfl (l' := #[iv p0, iv p1, iv p2, iv p3, iv p4, iv (own_n nn), rv b1, rv b3, iv (((own_n nn) - (1 : Int32))), iv 1, iv (own_n kq13), iv (own_n kq14), iv 0, iv 0, iv (own_n kq24), iv (own_n kq25), iv 1, iv 1, iv (own_n kq78), .unset, .unset, .unset, .unset, .unset, .unset, .unset]) rfl ?_
            refine XS.iloadN X78.here hx rfl (hb hby at_210) rfl ?_
            refine XS.iload X78.here hx rfl (hb hby at_211) rfl ?_
            refine st79 _ ?_
            refine XS.istore X79.here hx rfl (hb hby at_216) rfl (l' := #[iv p0, iv p1, iv p2, iv p3, iv p4, iv (own_n nn), rv b1, rv b3, iv (((own_n nn) - (1 : Int32))), iv 1, iv (own_n kq13), iv (own_n kq14), iv 0, iv 0, iv (own_n kq24), iv (own_n kq25), iv 1, iv 1, iv (own_n kq78), iv (own_n kq79), .unset, .unset, .unset, .unset, .unset, .unset]) rfl ?_
            refine XS.aload X79.here hx rfl (hb hby at_218) rfl rfl ?_
            show oS p e below T79 (mkF m 220 #[iv p0, iv p1, iv p2, iv p3, iv p4, iv (own_n nn), rv b1, rv b3, iv (((own_n nn) - (1 : Int32))), iv 1, iv (own_n kq13), iv (own_n kq14), iv 0, iv 0, iv (own_n kq24), iv (own_n kq25), iv 1, iv 1, iv (own_n kq78), iv (own_n kq79), .unset, .unset, .unset, .unset, .unset, .unset] [(.ref b1)]) _
            refine XS.iload X79.here hx rfl (hb hby at_220) rfl ?_
            refine XS.iload X79.here hx rfl (hb hby at_222) rfl ?_
            refine st82 _ ?_
            refine XS.istore X82.here hx rfl (hb hby at_227) rfl (l' := #[iv p0, iv p1, iv p2, iv p3, iv p4, iv (own_n nn), rv b1, rv b3, iv (((own_n nn) - (1 : Int32))), iv 1, iv (own_n kq13), iv (own_n kq14), iv 0, iv 0, iv (own_n kq24), iv (own_n kq25), iv 1, iv 1, iv (own_n kq78), iv (own_n kq79), iv 0, .unset, .unset, .unset, .unset, .unset]) rfl ?_
            refine XS.aload X82.here hx rfl (hb hby at_229) rfl rfl ?_
            refine XS.iload X82.here hx rfl (hb hby at_231) rfl ?_
            refine XS.iload X82.here hx rfl (hb hby at_233) rfl ?_
            refine st84 _ ?_
            show oS p e below T84 (mkF m 238 #[iv p0, iv p1, iv p2, iv p3, iv p4, iv (own_n nn), rv b1, rv b3, iv (((own_n nn) - (1 : Int32))), iv 1, iv (own_n kq13), iv (own_n kq14), iv 0, iv 0, iv (own_n kq24), iv (own_n kq25), iv 1, iv 1, iv (own_n kq78), iv (own_n kq79), iv 0, .unset, .unset, .unset, .unset, .unset] [(.int 0)]) _
            refine XS.istore X84.here hx rfl (hb hby at_238) rfl (l' := #[iv p0, iv p1, iv p2, iv p3, iv p4, iv (own_n nn), rv b1, rv b3, iv (((own_n nn) - (1 : Int32))), iv 1, iv (own_n kq13), iv (own_n kq14), iv 0, iv 0, iv (own_n kq24), iv (own_n kq25), iv 1, iv 1, iv (own_n kq78), iv (own_n kq79), iv 0, iv 0, .unset, .unset, .unset, .unset]) rfl ?_
            refine XS.iload X84.here hx rfl (hb hby at_240) rfl ?_
            refine XS.ifYes X84.here hx rfl (pc0 := 242) (pc' := 251) rfl (hb hby at_242) rfl (XT.i0_eq_t (by decide)) (by decide) (by decide) ?_
            refine XS.iload X84.here hx rfl (hb hby at_251) rfl ?_
            refine XS.ifNo X84.here hx rfl (hb hby at_253) rfl (XT.i0_eq_f (by decide)) ?_
            refine XS.iload X84.here hx rfl (hb hby at_256) rfl ?_
            refine XS.iload X84.here hx rfl (hb hby at_258) rfl ?_
            refine XS.icmpNo X84.here hx rfl (hb hby at_260) rfl (XT.ii_ne_f (by decide)) ?_
            show oS p e below T84 (mkF m 263 #[iv p0, iv p1, iv p2, iv p3, iv p4, iv (own_n nn), rv b1, rv b3, iv (((own_n nn) - (1 : Int32))), iv 1, iv (own_n kq13), iv (own_n kq14), iv 0, iv 0, iv (own_n kq24), iv (own_n kq25), iv 1, iv 1, iv (own_n kq78), iv (own_n kq79), iv 0, iv 0, .unset, .unset, .unset, .unset] []) _
            refine XS.aload X84.here hx rfl (hb hby at_263) rfl rfl ?_
            refine st85 _ ?_
            refine XS.iload X85.here hx rfl (hb hby at_268) rfl ?_
            refine XS.icmpNo X85.here hx rfl (hb hby at_270) rfl (XT.ii_ne_f rfl) ?_
            refine XT.iconstV X85.here hx rfl (1 : Int32) (hb hby at_273) (by decide) ?_
            refine XS.goto X85.here hx rfl (pc0 := 274) (pc' := 278) rfl (hb hby at_274) (by decide) (by decide) ?_
            refine XS.istore X85.here hx rfl (hb hby at_278) rfl (l' := #[iv p0, iv p1, iv p2, iv p3, iv p4, iv (own_n nn), rv b1, rv b3, iv (((own_n nn) - (1 : Int32))), iv 1, iv (own_n kq13), iv (own_n kq14), iv 0, iv 0, iv (own_n kq24), iv (own_n kq25), iv 1, iv 1, iv (own_n kq78), iv (own_n kq79), iv 0, iv 0, .unset, .unset, .unset, .unset]) rfl ?_
            refine XS.iload X85.here hx rfl (hb hby at_280) rfl ?_
            show oS p e below T85 (mkF m 282 #[iv p0, iv p1, iv p2, iv p3, iv p4, iv (own_n nn), rv b1, rv b3, iv (((own_n nn) - (1 : Int32))), iv 1, iv (own_n kq13), iv (own_n kq14), iv 0, iv 0, iv (own_n kq24), iv (own_n kq25), iv 1, iv 1, iv (own_n kq78), iv (own_n kq79), iv 0, iv 0, .unset, .unset, .unset, .unset] [(.int p4)]) _
            refine XS.iload X85.here hx rfl (hb hby at_282) rfl ?_
            refine st87 _ ?_
            refine XS.istore X87.here hx rfl (hb hby at_287) rfl (l' := #[iv p0, iv p1, iv p2, iv p3, iv p4, iv (own_n nn), rv b1, rv b3, iv (((own_n nn) - (1 : Int32))), iv 1, iv (own_n kq13), iv (own_n kq14), iv 0, iv 0, iv (own_n kq24), iv (own_n kq25), iv 1, iv 1, iv (own_n kq78), iv (own_n kq79), iv 0, iv 0, iv (own_n kq87), .unset, .unset, .unset]) rfl ?_
            refine XS.iload X87.here hx rfl (hb hby at_289) rfl ?_
            refine XS.iload X87.here hx rfl (hb hby at_291) rfl ?_
            refine st88 _ ?_
            refine XS.istore X88.here hx rfl (hb hby at_296) rfl (l' := #[iv p0, iv p1, iv p2, iv p3, iv p4, iv (own_n nn), rv b1, rv b3, iv (((own_n nn) - (1 : Int32))), iv 1, iv (own_n kq13), iv (own_n kq14), iv 0, iv 0, iv (own_n kq24), iv (own_n kq25), iv 1, iv 1, iv (own_n kq78), iv (own_n kq79), iv 0, iv 0, iv (own_n kq87), iv (own_n kq88), .unset, .unset]) rfl ?_
            refine XS.aload X88.here hx rfl (hb hby at_298) rfl rfl ?_
            show oS p e below T88 (mkF m 300 #[iv p0, iv p1, iv p2, iv p3, iv p4, iv (own_n nn), rv b1, rv b3, iv (((own_n nn) - (1 : Int32))), iv 1, iv (own_n kq13), iv (own_n kq14), iv 0, iv 0, iv (own_n kq24), iv (own_n kq25), iv 1, iv 1, iv (own_n kq78), iv (own_n kq79), iv 0, iv 0, iv (own_n kq87), iv (own_n kq88), .unset, .unset] [(.ref b1)]) _
            refine XS.iload X88.here hx rfl (hb hby at_300) rfl ?_
            refine XS.iload X88.here hx rfl (hb hby at_302) rfl ?_
            refine st89 _ ?_
            refine XS.istore X89.here hx rfl (hb hby at_307) rfl (l' := #[iv p0, iv p1, iv p2, iv p3, iv p4, iv (own_n nn), rv b1, rv b3, iv (((own_n nn) - (1 : Int32))), iv 1, iv (own_n kq13), iv (own_n kq14), iv 0, iv 0, iv (own_n kq24), iv (own_n kq25), iv 1, iv 1, iv (own_n kq78), iv (own_n kq79), iv 0, iv 0, iv (own_n kq87), iv (own_n kq88), iv 1, .unset]) rfl ?_
            refine XS.aload X89.here hx rfl (hb hby at_309) rfl rfl ?_
            refine XS.iload X89.here hx rfl (hb hby at_311) rfl ?_
            refine XS.iload X89.here hx rfl (hb hby at_313) rfl ?_
            refine st96 _ ?_
            show oS p e below T96 (mkF m 318 #[iv p0, iv p1, iv p2, iv p3, iv p4, iv (own_n nn), rv b1, rv b3, iv (((own_n nn) - (1 : Int32))), iv 1, iv (own_n kq13), iv (own_n kq14), iv 0, iv 0, iv (own_n kq24), iv (own_n kq25), iv 1, iv 1, iv (own_n kq78), iv (own_n kq79), iv 0, iv 0, iv (own_n kq87), iv (own_n kq88), iv 1, .unset] [(.int 1)]) _
            refine XS.istore X96.here hx rfl (hb hby at_318) rfl (l' := #[iv p0, iv p1, iv p2, iv p3, iv p4, iv (own_n nn), rv b1, rv b3, iv (((own_n nn) - (1 : Int32))), iv 1, iv (own_n kq13), iv (own_n kq14), iv 0, iv 0, iv (own_n kq24), iv (own_n kq25), iv 1, iv 1, iv (own_n kq78), iv (own_n kq79), iv 0, iv 0, iv (own_n kq87), iv (own_n kq88), iv 1, iv 1]) rfl ?_
            refine XS.iload X96.here hx rfl (hb hby at_320) rfl ?_
            refine XS.ifNo X96.here hx rfl (hb hby at_322) rfl (XT.i0_eq_f (by decide)) ?_
            refine XS.iload X96.here hx rfl (hb hby at_325) rfl ?_
            refine XT.iconstV X96.here hx rfl (1 : Int32) (hb hby at_327) (by decide) ?_
            refine XS.isub X96.here hx rfl (hb hby at_328) rfl ?_
            refine XS.istore X96.here hx rfl (hb hby at_329) rfl (l' := #[iv p0, iv p1, iv p2, iv p3, iv p4, iv (own_n nn), rv b1, rv b3, iv ((((own_n nn) - (1 : Int32)) - (1 : Int32))), iv 1, iv (own_n kq13), iv (own_n kq14), iv 0, iv 0, iv (own_n kq24), iv (own_n kq25), iv 1, iv 1, iv (own_n kq78), iv (own_n kq79), iv 0, iv 0, iv (own_n kq87), iv (own_n kq88), iv 1, iv 1]) rfl ?_
            refine XS.iload X96.here hx rfl (hb hby at_331) rfl ?_
            show oS p e below T96 (mkF m 333 #[iv p0, iv p1, iv p2, iv p3, iv p4, iv (own_n nn), rv b1, rv b3, iv ((((own_n nn) - (1 : Int32)) - (1 : Int32))), iv 1, iv (own_n kq13), iv (own_n kq14), iv 0, iv 0, iv (own_n kq24), iv (own_n kq25), iv 1, iv 1, iv (own_n kq78), iv (own_n kq79), iv 0, iv 0, iv (own_n kq87), iv (own_n kq88), iv 1, iv 1] [(.int 1)]) _
            refine XS.ifNo X96.here hx rfl (hb hby at_333) rfl (XT.i0_eq_f (by decide)) ?_
            refine XS.iload X96.here hx rfl (hb hby at_336) rfl ?_
            refine XS.iload X96.here hx rfl (hb hby at_338) rfl ?_
            refine XS.icmpNo X96.here hx rfl (hb hby at_340) rfl (XT.ii_ne_f (by decide)) ?_
            refine XS.aload X96.here hx rfl (hb hby at_343) rfl rfl ?_
            refine st98 _ ?_
            refine XS.iload X98.here hx rfl (hb hby at_348) rfl ?_
            refine XS.icmpNo X98.here hx rfl (hb hby at_350) rfl (XT.ii_ne_f rfl) ?_
            show oS p e below T98 (mkF m 353 #[iv p0, iv p1, iv p2, iv p3, iv p4, iv (own_n nn), rv b1, rv b3, iv ((((own_n nn) - (1 : Int32)) - (1 : Int32))), iv 1, iv (own_n kq13), iv (own_n kq14), iv 0, iv 0, iv (own_n kq24), iv (own_n kq25), iv 1, iv 1, iv (own_n kq78), iv (own_n kq79), iv 0, iv 0, iv (own_n kq87), iv (own_n kq88), iv 1, iv 1] []) _
            refine XT.iconstV X98.here hx rfl (1 : Int32) (hb hby at_353) (by decide) ?_
            refine XS.goto X98.here hx rfl (pc0 := 354) (pc' := 358) rfl (hb hby at_354) (by decide) (by decide) ?_
            refine XS.istore X98.here hx rfl (hb hby at_358) rfl (l' := #[iv p0, iv p1, iv p2, iv p3, iv p4, iv (own_n nn), rv b1, rv b3, iv ((((own_n nn) - (1 : Int32)) - (1 : Int32))), iv 1, iv (own_n kq13), iv (own_n kq14), iv 0, iv 0, iv (own_n kq24), iv (own_n kq25), iv 1, iv 1, iv (own_n kq78), iv (own_n kq79), iv 0, iv 0, iv (own_n kq87), iv (own_n kq88), iv 1, iv 1]) rfl ?_
            refine XS.iload X98.here hx rfl (hb hby at_360) rfl ?_
            exact kz)
          obtain ⟨fs, hr, hrun, hended, hW, hsame⟩ := X98.leave (v := some (.int 1)) (fun h => by rw [Bd.returns] at h; cases h)
          refine ⟨_, _, pre0 _ (S100 _ ?_), hrun, hended, _, _, rfl, ?_, ⟨_, rfl⟩, hW, hsame.mono (by decide) (by decide)⟩
          · exact retN X98 hx (t := .boolean) Bd.returns (by simp) (hb hby at_362) hr
          · show Qrm0s Z p0 p1 p2 p3 p4 nn h0 n0 _ T98.heap _
            rw [e98]
            exact ⟨rfl, N98⟩
      · have N82 := Fr.app N79 N82q
        have e82 : T82.heap = T82.heap := rfl
        have Zk82 : n0 ≤ T82.heap.size := Nat.le_trans Zk74 K82.1
        have Kk82 : Keep h0 T82.heap [] := Kk74.trans K82 (allS (Or.inr sz_b1) (allS (Or.inr sz_b2') all0))
        have f101 := (B74.keep K82 (ninS (Ne.symm ne_b1_b3) (ninS (Ne.symm ne_b2'_b3) nin0)))
        obtain ⟨_, T102, Lc102, X102, hQ102, st102⟩ := own_callS (W := 0) (y := mN5) X82 hx hZ hown (hw _ (own_w 30 rfl)) (hw _ (own_w 31 rfl)) (hw _ (own_w 16 rfl)) (hw _ (own_w 32 rfl)) (by decide) (rmRef1 l Z av0 hw [] b3 k3 (own_L own_n (own_n kq24) (own_n kq25)) kq78 kq79 T82.heap n0 Zk82 f101 (Nat.lt_of_lt_of_le lq78 hnn) (Nat.lt_of_lt_of_le lq79 hnn) ge_b3 (fun q => rs82 ((RL74 _ lq78 _ lq79).mpr q))) (by decide) (by decide) (g := (mkF m 235 #[iv p0, iv p1, iv p2, iv p3, iv p4, iv (own_n nn), rv b1, rv b3, iv (((own_n nn) - (1 : Int32))), iv 1, iv (own_n kq13), iv (own_n kq14), iv 0, iv 0, iv (own_n kq24), iv (own_n kq25), iv 1, iv 1, iv (own_n kq78), iv (own_n kq79), iv 1, .unset, .unset, .unset, .unset, .unset] [(.int (own_n kq79)), (.int (own_n kq78)), (.ref b3)])) rfl (by rw [hml]; rfl) (argsL := [(.ref b3), (.int (own_n kq78)), (.int (own_n kq79))]) (rest := []) (lenOf pd__III_Z rfl) rfl (hb hby at_235) rfl e82 (by decide : 3 + 0 ≤ _) (by decide : 10 + 0 ≤ _)
        obtain ⟨rfl, N102q, K102, B102⟩ := hQ102
        have N102 := Fr.app N82 N102q
        have e102 : T102.heap = T102.heap := rfl
        have Zk102 : n0 ≤ T102.heap.size := Nat.le_trans Zk82 K102.1
        have Kk102 : Keep h0 T102.heap [] := Kk82.trans K102 (allS (Or.inr sz_b3) all0)
        have RL102 := own_RL RL74 lq78 lq79
        have f103 := (C82.keep K102 (ninS ne_b1_b3 nin0))
        have f105 := ((f77.keep K82).keep K102)
        obtain ⟨_, T104, Lc104, X104, hQ104, st104⟩ := own_virtual (W := 0) (y := mN0) (z := mN0) X102 hx hZ hown (hw _ (own_w 33 rfl)) (hw _ (own_w 34 rfl)) (notFace_of_selects (args := #[]) (mvT hZ (hw _ (own_w 36 rfl)))) (hw _ (own_w 36 rfl)) (hw _ (own_w 35 rfl)) (hw _ (own_w 37 rfl)) (hw _ (own_w 2 rfl)) (by decide) (rmCount l Z av0 hw [] b1 (((own_n nn) - (1 : Int32)) - (1 : Int32)) T102.heap n0 Zk102 f103) (by decide) (by decide) f105 (g := (mkF m 265 #[iv p0, iv p1, iv p2, iv p3, iv p4, iv (own_n nn), rv b1, rv b3, iv ((((own_n nn) - (1 : Int32)) - (1 : Int32))), iv 1, iv (own_n kq13), iv (own_n kq14), iv 0, iv 0, iv (own_n kq24), iv (own_n kq25), iv 1, iv 1, iv (own_n kq78), iv (own_n kq79), iv 1, iv 1, .unset, .unset, .unset, .unset] [(.ref b1)])) rfl (by rw [hml]; rfl) (argsL := []) (rest := []) (lenOf pd__I rfl) rfl (hb hby at_265) rfl e102 (by decide : 3 + 0 ≤ _) (by decide : 10 + 0 ≤ _)
        obtain ⟨rfl, N104q, hh104⟩ := hQ104
        have N104 := Fr.app N102 N104q
        have e104 : T104.heap = T102.heap := hh104
        obtain ⟨_, T106, Lc106, X106, hQ106, st106⟩ := own_callS (W := 0) (y := mN1) X104 hx hZ hown (hw _ (own_w 14 rfl)) (hw _ (own_w 15 rfl)) (hw _ (own_w 16 rfl)) (hw _ (own_w 17 rfl)) (by decide) (rmFirst l Z av0 hw [] p4 nn T102.heap n0 Zk102 hone hnn) (by decide) (by decide) (g := (mkF m 284 #[iv p0, iv p1, iv p2, iv p3, iv p4, iv (own_n nn), rv b1, rv b3, iv ((((own_n nn) - (1 : Int32)) - (1 : Int32))), iv 1, iv (own_n kq13), iv (own_n kq14), iv 0, iv 0, iv (own_n kq24), iv (own_n kq25), iv 1, iv 1, iv (own_n kq78), iv (own_n kq79), iv 1, iv 1, .unset, .unset, .unset, .unset] [(.int (own_n nn)), (.int p4)])) rfl (by rw [hml]; rfl) (argsL := [(.int p4), (.int (own_n nn))]) (rest := []) (lenOf pd__II_I rfl) rfl (hb hby at_284) rfl e104 (by decide : 3 + 0 ≤ _) (by decide : 10 + 0 ≤ _)
        obtain ⟨kq106, lq106, rfl, N106q, hh106⟩ := hQ106
        have N106 := Fr.app N104 N106q
        have e106 : T106.heap = T102.heap := hh106
        obtain ⟨_, T107, Lc107, X107, hQ107, st107⟩ := own_callS (W := 0) (y := mN2) X106 hx hZ hown (hw _ (own_w 18 rfl)) (hw _ (own_w 19 rfl)) (hw _ (own_w 16 rfl)) (hw _ (own_w 20 rfl)) (by decide) (rmSecond l Z av0 hw [] p4 nn T102.heap n0 Zk102 hone hnn) (by decide) (by decide) (g := (mkF m 293 #[iv p0, iv p1, iv p2, iv p3, iv p4, iv (own_n nn), rv b1, rv b3, iv ((((own_n nn) - (1 : Int32)) - (1 : Int32))), iv 1, iv (own_n kq13), iv (own_n kq14), iv 0, iv 0, iv (own_n kq24), iv (own_n kq25), iv 1, iv 1, iv (own_n kq78), iv (own_n kq79), iv 1, iv 1, iv (own_n kq106), .unset, .unset, .unset] [(.int (own_n nn)), (.int p4)])) rfl (by rw [hml]; rfl) (argsL := [(.int p4), (.int (own_n nn))]) (rest := []) (lenOf pd__II_I rfl) rfl (hb hby at_293) rfl e106 (by decide : 3 + 0 ≤ _) (by decide : 10 + 0 ≤ _)
        obtain ⟨kq107, lq107, rfl, N107q, hh107⟩ := hQ107
        have N107 := Fr.app N106 N107q
        have e107 : T107.heap = T102.heap := hh107
        have f108 := (P82.keep K102 (ninS ne_b1_b3 nin0))
        have f109 := (A82.keep K102 (ninS ne_b2'_b3 nin0))
        obtain ⟨_, T110, Lc110, X110, hQ110, st110⟩ := own_virtual (W := 0) (y := mN4) (z := mN4) X107 hx hZ hown (hw _ (own_w 21 rfl)) (hw _ (own_w 22 rfl)) (notFace_of_selects (args := #[]) (mvT hZ (hw _ (own_w 24 rfl)))) (hw _ (own_w 24 rfl)) (hw _ (own_w 23 rfl)) (hw _ (own_w 25 rfl)) (hw _ (own_w 2 rfl)) (by decide) (rmJoin l Z av0 hw [] b1 b2' k2' nn f82' (own_R (own_R (fun i => i) ((fun i => i) kq24) ((fun i => i) kq25)) ((own_R (fun i => i) ((fun i => i) kq24) ((fun i => i) kq25)) kq78) ((own_R (fun i => i) ((fun i => i) kq24) ((fun i => i) kq25)) kq79)) d82' kq106 kq107 (((own_n nn) - (1 : Int32)) - (1 : Int32)) T102.heap n0 Zk102 hnn f105 f108 f103 f109 I82 lq106 lq107 ge_b1 ge_b2' ne_b1_b2') (by decide) (by decide) f105 (g := (mkF m 304 #[iv p0, iv p1, iv p2, iv p3, iv p4, iv (own_n nn), rv b1, rv b3, iv ((((own_n nn) - (1 : Int32)) - (1 : Int32))), iv 1, iv (own_n kq13), iv (own_n kq14), iv 0, iv 0, iv (own_n kq24), iv (own_n kq25), iv 1, iv 1, iv (own_n kq78), iv (own_n kq79), iv 1, iv 1, iv (own_n kq106), iv (own_n kq107), .unset, .unset] [(.int (own_n kq107)), (.int (own_n kq106)), (.ref b1)])) rfl (by rw [hml]; rfl) (argsL := [(.int (own_n kq106)), (.int (own_n kq107))]) (rest := []) (lenOf pd__II_Z rfl) rfl (hb hby at_304) rfl e107 (by decide : 3 + 0 ≤ _) (by decide : 10 + 0 ≤ _)
        rcases hQ110 with ⟨rfl, N110q, rs110, K110, P110, C110, f110', A110, I110⟩ | ⟨rfl, N110q, rs110, K110, P110, C110, f110', d110', A110, I110⟩
        · have N110 := Fr.app N107 N110q
          have e110 : T110.heap = T110.heap := rfl
          have Zk110 : n0 ≤ T110.heap.size := Nat.le_trans Zk102 K110.1
          have Kk110 : Keep h0 T110.heap [] := Kk102.trans K110 (allS (Or.inr sz_b1) (allS (Or.inr sz_b2') all0))
          have f111 := (B102.keep K110 (ninS (Ne.symm ne_b1_b3) (ninS (Ne.symm ne_b2'_b3) nin0)))
          obtain ⟨_, T112, Lc112, X112, hQ112, st112⟩ := own_callS (W := 0) (y := mN5) X110 hx hZ hown (hw _ (own_w 30 rfl)) (hw _ (own_w 31 rfl)) (hw _ (own_w 16 rfl)) (hw _ (own_w 32 rfl)) (by decide) (rmRef0 l Z av0 hw [] b3 k3 (own_L (own_L own_n (own_n kq24) (own_n kq25)) ((own_L own_n (own_n kq24) (own_n kq25)) kq78) ((own_L own_n (own_n kq24) (own_n kq25)) kq79)) kq106 kq107 T110.heap n0 Zk110 f111 (Nat.lt_of_lt_of_le lq106 hnn) (Nat.lt_of_lt_of_le lq107 hnn) ge_b3 ((RL102 _ lq106 _ lq107).mp rs110)) (by decide) (by decide) (g := (mkF m 315 #[iv p0, iv p1, iv p2, iv p3, iv p4, iv (own_n nn), rv b1, rv b3, iv ((((own_n nn) - (1 : Int32)) - (1 : Int32))), iv 1, iv (own_n kq13), iv (own_n kq14), iv 0, iv 0, iv (own_n kq24), iv (own_n kq25), iv 1, iv 1, iv (own_n kq78), iv (own_n kq79), iv 1, iv 1, iv (own_n kq106), iv (own_n kq107), iv 0, .unset] [(.int (own_n kq107)), (.int (own_n kq106)), (.ref b3)])) rfl (by rw [hml]; rfl) (argsL := [(.ref b3), (.int (own_n kq106)), (.int (own_n kq107))]) (rest := []) (lenOf pd__III_Z rfl) rfl (hb hby at_315) rfl e110 (by decide : 3 + 0 ≤ _) (by decide : 10 + 0 ≤ _)
          obtain ⟨rfl, N112q, hh112⟩ := hQ112
          have N112 := Fr.app N110 N112q
          have e112 : T112.heap = T110.heap := hh112
          have f114 := (f105.keep K110)
          obtain ⟨_, T113, Lc113, X113, hQ113, st113⟩ := own_virtual (W := 0) (y := mN0) (z := mN0) X112 hx hZ hown (hw _ (own_w 33 rfl)) (hw _ (own_w 34 rfl)) (notFace_of_selects (args := #[]) (mvT hZ (hw _ (own_w 36 rfl)))) (hw _ (own_w 36 rfl)) (hw _ (own_w 35 rfl)) (hw _ (own_w 37 rfl)) (hw _ (own_w 2 rfl)) (by decide) (rmCount l Z av0 hw [] b1 (((own_n nn) - (1 : Int32)) - (1 : Int32)) T110.heap n0 Zk110 C110) (by decide) (by decide) f114 (g := (mkF m 345 #[iv p0, iv p1, iv p2, iv p3, iv p4, iv (own_n nn), rv b1, rv b3, iv ((((own_n nn) - (1 : Int32)) - (1 : Int32))), iv 1, iv (own_n kq13), iv (own_n kq14), iv 0, iv 0, iv (own_n kq24), iv (own_n kq25), iv 1, iv 1, iv (own_n kq78), iv (own_n kq79), iv 1, iv 1, iv (own_n kq106), iv (own_n kq107), iv 0, iv 0] [(.ref b1)])) rfl (by rw [hml]; rfl) (argsL := []) (rest := []) (lenOf pd__I rfl) rfl (hb hby at_345) rfl e112 (by decide : 3 + 0 ≤ _) (by decide : 10 + 0 ≤ _)
          obtain ⟨rfl, N113q, hh113⟩ := hQ113
          have N113 := Fr.app N112 N113q
          have e113 : T113.heap = T110.heap := hh113
          have S115 : ∀ tz, oS p e below T113 (mkF m 362 #[iv p0, iv p1, iv p2, iv p3, iv p4, iv (own_n nn), rv b1, rv b3, iv ((((own_n nn) - (1 : Int32)) - (1 : Int32))), iv 1, iv (own_n kq13), iv (own_n kq14), iv 0, iv 0, iv (own_n kq24), iv (own_n kq25), iv 1, iv 1, iv (own_n kq78), iv (own_n kq79), iv 1, iv 1, iv (own_n kq106), iv (own_n kq107), iv 0, iv 0] [(.int 1)]) tz → oS p e below s₁ (mkF m 0 #[iv p0, iv p1, iv p2, iv p3, iv p4, .unset, .unset, .unset, .unset, .unset, .unset, .unset, .unset, .unset, .unset, .unset, .unset, .unset, .unset, .unset, .unset, .unset, .unset, .unset, .unset, .unset] []) tz := fun tz kz => id (by
            show oS p e below s₁ (mkF m 0 #[iv p0, iv p1, iv p2, iv p3, iv p4, .unset, .unset, .unset, .unset, .unset, .unset, .unset, .unset, .unset, .unset, .unset, .unset, .unset, .unset, .unset, .unset, .unset, .unset, .unset, .unset, .unset] []) _
            refine XT.iconstV X0.here hx rfl (1 : Int32) (hb hby at_0) (by decide) ?_
            refine XS.iloadN X0.here hx rfl (hb hby at_1) rfl ?_
            refine XT.iconstV X0.here hx rfl (3 : Int32) (hb hby at_2) (by decide) ?_
            refine XS.iand X0.here hx rfl (hb hby at_3) rfl ?_
            refine XS.iadd X0.here hx rfl (hb hby at_4) rfl ?_
            show oS p e below s₁ (mkF m 5 #[iv p0, iv p1, iv p2, iv p3, iv p4, .unset, .unset, .unset, .unset, .unset, .unset, .unset, .unset, .unset, .unset, .unset, .unset, .unset, .unset, .unset, .unset, .unset, .unset, .unset, .unset, .unset] [(.int ((1 : Int32) + (p0 &&& (3 : Int32))))]) _
            rw [hn]
            show oS p e below s₁ (mkF m 5 #[iv p0, iv p1, iv p2, iv p3, iv p4, .unset, .unset, .unset, .unset, .unset, .unset, .unset, .unset, .unset, .unset, .unset, .unset, .unset, .unset, .unset, .unset, .unset, .unset, .unset, .unset, .unset] [(.int (own_n nn))]) _
            refine XS.istore X0.here hx rfl (hb hby at_5) rfl (l' := #[iv p0, iv p1, iv p2, iv p3, iv p4, iv (own_n nn), .unset, .unset, .unset, .unset, .unset, .unset, .unset, .unset, .unset, .unset, .unset, .unset, .unset, .unset, .unset, .unset, .unset, .unset, .unset, .unset]) rfl ?_
            refine st1 _ ?_
            show oS p e below T1 (mkF m 10 #[iv p0, iv p1, iv p2, iv p3, iv p4, iv (own_n nn), .unset, .unset, .unset, .unset, .unset, .unset, .unset, .unset, .unset, .unset, .unset, .unset, .unset, .unset, .unset, .unset, .unset, .unset, .unset, .unset] [(.ref b1)]) _
            refine XS.dup X1.here hx rfl (hb hby at_10) rfl rfl ?_
            refine XS.iload X1.here hx rfl (hb hby at_11) rfl ?_
            refine st2 _ ?_
            refine XS.astore X2.here hx rfl (hb hby at_16) rfl rfl (l' := #[iv p0, iv p1, iv p2, iv p3, iv p4, iv (own_n nn), rv b1, .unset, .unset, .unset, .unset, .unset, .unset, .unset, .unset, .unset, .unset, .unset, .unset, .unset, .unset, .unset, .unset, .unset, .unset, .unset]) rfl ?_
            refine XT.iconstV X2.here hx rfl (4 : Int32) (hb hby at_18) (by decide) ?_
            refine st3 _ ?_
            refine XS.dup X3.here hx rfl (hb hby at_21) rfl rfl ?_
            refine XT.iconstV X3.here hx rfl (0 : Int32) (hb hby at_22) (by decide) ?_
            show oS p e below T3 (mkF m 23 #[iv p0, iv p1, iv p2, iv p3, iv p4, iv (own_n nn), rv b1, .unset, .unset, .unset, .unset, .unset, .unset, .unset, .unset, .unset, .unset, .unset, .unset, .unset, .unset, .unset, .unset, .unset, .unset, .unset] [(.int 0), (.ref b3), (.ref b3)]) _
            refine XT.iconstV X3.here hx rfl (0 : Int32) (hb hby at_23) (by decide) ?_
            refine st6 _ ?_
            refine XS.dup X6.here hx rfl (hb hby at_25) rfl rfl ?_
            refine XT.iconstV X6.here hx rfl (1 : Int32) (hb hby at_26) (by decide) ?_
            refine XT.iconstV X6.here hx rfl (1 : Int32) (hb hby at_27) (by decide) ?_
            refine st8 _ ?_
            refine XS.dup X8.here hx rfl (hb hby at_29) rfl rfl ?_
            refine XT.iconstV X8.here hx rfl (2 : Int32) (hb hby at_30) (by decide) ?_
            show oS p e below T8 (mkF m 31 #[iv p0, iv p1, iv p2, iv p3, iv p4, iv (own_n nn), rv b1, .unset, .unset, .unset, .unset, .unset, .unset, .unset, .unset, .unset, .unset, .unset, .unset, .unset, .unset, .unset, .unset, .unset, .unset, .unset] [(.int 2), (.ref b3), (.ref b3)]) _
            refine XT.iconstV X8.here hx rfl (2 : Int32) (hb hby at_31) (by decide) ?_
            refine st10 _ ?_
            refine XS.dup X10.here hx rfl (hb hby at_33) rfl rfl ?_
            refine XT.iconstV X10.here hx rfl (3 : Int32) (hb hby at_34) (by decide) ?_
            refine XT.iconstV X10.here hx rfl (3 : Int32) (hb hby at_35) (by decide) ?_
            refine st12 _ ?_
            refine XS.astore X12.here hx rfl (hb hby at_37) rfl rfl (l' := #[iv p0, iv p1, iv p2, iv p3, iv p4, iv (own_n nn), rv b1, rv b3, .unset, .unset, .unset, .unset, .unset, .unset, .unset, .unset, .unset, .unset, .unset, .unset, .unset, .unset, .unset, .unset, .unset, .unset]) rfl ?_
            refine XS.iload X12.here hx rfl (hb hby at_39) rfl ?_
            show oS p e below T12 (mkF m 41 #[iv p0, iv p1, iv p2, iv p3, iv p4, iv (own_n nn), rv b1, rv b3, .unset, .unset, .unset, .unset, .unset, .unset, .unset, .unset, .unset, .unset, .unset, .unset, .unset, .unset, .unset, .unset, .unset, .unset] [(.int (own_n nn))]) _
            refine XS.istore X12.here hx rfl (hb hby at_41) rfl (l' := #[iv p0, iv p1, iv p2, iv p3, iv p4, iv (own_n nn), rv b1, rv b3, iv (own_n nn), .unset, .unset, .unset, .unset, .unset, .unset, .unset, .unset, .unset, .unset, .unset, .unset, .unset, .unset, .unset, .unset, .unset]) rfl ?_
            refine XT.iconstV X12.here hx rfl (1 : Int32) (hb hby at_43) (by decide) ?_
            refine XS.istore X12.here hx rfl (hb hby at_44) rfl (l' := #[iv p0, iv p1, iv p2, iv p3, iv p4, iv (own_n nn), rv b1, rv b3, iv (own_n nn), iv 1, .unset, .unset, .unset, .unset, .unset, .unset, .unset, .unset, .unset, .unset, .unset, .unset, .unset, .unset, .unset, .unset]) rfl ?_
            refine XS.iloadN X12.here hx rfl (hb hby at_46) rfl ?_
            refine XS.iload X12.here hx rfl (hb hby at_47) rfl ?_
            refine st13 _ ?_
            refine XS.istore X13.here hx rfl (hb hby at_52) rfl (l' := #[iv p0, iv p1, iv p2, iv p3, iv p4, iv (own_n nn), rv b1, rv b3, iv (own_n nn), iv 1, iv (own_n kq13), .unset, .unset, .unset, .unset, .unset, .unset, .unset, .unset, .unset, .unset, .unset, .unset, .unset, .unset, .unset]) rfl ?_
            refine XS.iloadN X13.here hx rfl (hb hby at_54) rfl ?_
            show oS p e below T13 (mkF m 55 #[iv p0, iv p1, iv p2, iv p3, iv p4, iv (own_n nn), rv b1, rv b3, iv (own_n nn), iv 1, iv (own_n kq13), .unset, .unset, .unset, .unset, .unset, .unset, .unset, .unset, .unset, .unset, .unset, .unset, .unset, .unset, .unset] [(.int p1)]) _
            refine XS.iload X13.here hx rfl (hb hby at_55) rfl ?_
            refine st14 _ ?_
            refine XS.istore X14.here hx rfl (hb hby at_60) rfl (l' := #[iv p0, iv p1, iv p2, iv p3, iv p4, iv (own_n nn), rv b1, rv b3, iv (own_n nn), iv 1, iv (own_n kq13), iv (own_n kq14), .unset, .unset, .unset, .unset, .unset, .unset, .unset, .unset, .unset, .unset, .unset, .unset, .unset, .unset]) rfl ?_
            refine XS.aload X14.here hx rfl (hb hby at_62) rfl rfl ?_
            refine XS.iload X14.here hx rfl (hb hby at_64) rfl ?_
            refine XS.iload X14.here hx rfl (hb hby at_66) rfl ?_
            refine st19 _ ?_
            refine XS.istore X19.here hx rfl (hb hby at_71) rfl (l' := #[iv p0, iv p1, iv p2, iv p3, iv p4, iv (own_n nn), rv b1, rv b3, iv (own_n nn), iv 1, iv (own_n kq13), iv (own_n kq14), iv 0, .unset, .unset, .unset, .unset, .unset, .unset, .unset, .unset, .unset, .unset, .unset, .unset, .unset]) rfl ?_
            show oS p e below T19 (mkF m 73 #[iv p0, iv p1, iv p2, iv p3, iv p4, iv (own_n nn), rv b1, rv b3, iv (own_n nn), iv 1, iv (own_n kq13), iv (own_n kq14), iv 0, .unset, .unset, .unset, .unset, .unset, .unset, .unset, .unset, .unset, .unset, .unset, .unset, .unset] []) _
            refine XS.aload X19.here hx rfl (hb hby at_73) rfl rfl ?_
            refine XS.iload X19.here hx rfl (hb hby at_75) rfl ?_
            refine XS.iload X19.here hx rfl (hb hby at_77) rfl ?_
            refine st21 _ ?_
            refine XS.istore X21.here hx rfl (hb hby at_82) rfl (l' := #[iv p0, iv p1, iv p2, iv p3, iv p4, iv (own_n nn), rv b1, rv b3, iv (own_n nn), iv 1, iv (own_n kq13), iv (own_n kq14), iv 0, iv 0, .unset, .unset, .unset, .unset, .unset, .unset, .unset, .unset, .unset, .unset, .unset, .unset]) rfl ?_
            refine XS.iload X21.here hx rfl (hb hby at_84) rfl ?_
            refine XS.ifYes X21.here hx rfl (pc0 := 86) (pc' := 95) rfl (hb hby at_86) rfl (XT.i0_eq_t (by decide)) (by decide) (by decide) ?_
            refine XS.iload X21.here hx rfl (hb hby at_95) rfl ?_
            show oS p e below T21 (mkF m 97 #[iv p0, iv p1, iv p2, iv p3, iv p4, iv (own_n nn), rv b1, rv b3, iv (own_n nn), iv 1, iv (own_n kq13), iv (own_n kq14), iv 0, iv 0, .unset, .unset, .unset, .unset, .unset, .unset, .unset, .unset, .unset, .unset, .unset, .unset] [(.int 1)]) _
            refine XS.ifNo X21.here hx rfl (hb hby at_97) rfl (XT.i0_eq_f (by decide)) ?_
            refine XS.iload X21.here hx rfl (hb hby at_100) rfl ?_
            refine XS.iload X21.here hx rfl (hb hby at_102) rfl ?_
            refine XS.icmpNo X21.here hx rfl (hb hby at_104) rfl (XT.ii_ne_f (by decide)) ?_
            refine XS.aload X21.here hx rfl (hb hby at_107) rfl rfl ?_
            refine st22 _ ?_
            refine XS.iload X22.here hx rfl (hb hby at_112) rfl ?_
            refine XS.icmpNo X22.here hx rfl (hb hby at_114) rfl (XT.ii_ne_f rfl) ?_
            show oS p e below T22 (mkF m 117 #[iv p0, iv p1, iv p2, iv p3, iv p4, iv (own_n nn), rv b1, rv b3, iv (own_n nn), iv 1, iv (own_n kq13), iv (own_n kq14), iv 0, iv 0, .unset, .unset, .unset, .unset, .unset, .unset, .unset, .unset, .unset, .unset, .unset, .unset] []) _
            refine XT.iconstV X22.here hx rfl (1 : Int32) (hb hby at_117) (by decide) ?_
            refine XS.goto X22.here hx rfl (pc0 := 118) (pc' := 122) rfl (hb hby at_118) (by decide) (by decide) ?_
            refine XS.istore X22.here hx rfl (hb hby at_122) rfl (l' := #[iv p0, iv p1, iv p2, iv p3, iv p4, iv (own_n nn), rv b1, rv b3, iv (own_n nn), iv 1, iv (own_n kq13), iv (own_n kq14), iv 0, iv 0, .unset, .unset, .unset, .unset, .unset, .unset, .unset, .unset, .unset, .unset, .unset, .unset]) rfl ?_
            refine XS.iloadN X22.here hx rfl (hb hby at_124) rfl ?_
            refine XS.iload X22.here hx rfl (hb hby at_125) rfl ?_
            refine st24 _ ?_
            refine XS.istore X24.here hx rfl (hb hby at_130) rfl (l' := #[iv p0, iv p1, iv p2, iv p3, iv p4, iv (own_n nn), rv b1, rv b3, iv (own_n nn), iv 1, iv (own_n kq13), iv (own_n kq14), iv 0, iv 0, iv (own_n kq24), .unset, .unset, .unset, .unset, .unset, .unset, .unset, .unset, .unset, .unset, .unset]) rfl ?_
            refine XS.iloadN X24.here hx rfl (hb hby at_132) rfl ?_
            show oS p e below T24 (mkF m 133 #[iv p0, iv p1, iv p2, iv p3, iv p4, iv (own_n nn), rv b1, rv b3, iv (own_n nn), iv 1, iv (own_n kq13), iv (own_n kq14), iv 0, iv 0, iv (own_n kq24), .unset, .unset, .unset, .unset, .unset, .unset, .unset, .unset, .unset, .unset, .unset] [(.int p2)]) _
            refine XS.iload X24.here hx rfl (hb hby at_133) rfl ?_
            refine st25 _ ?_
            refine XS.istore X25.here hx rfl (hb hby at_138) rfl (l' := #[iv p0, iv p1, iv p2, iv p3, iv p4, iv (own_n nn), rv b1, rv b3, iv (own_n nn), iv 1, iv (own_n kq13), iv (own_n kq14), iv 0, iv 0, iv (own_n kq24), iv (own_n kq25), .unset, .unset, .unset, .unset, .unset, .unset, .unset, .unset, .unset, .unset]) rfl ?_
            refine XS.aload X25.here hx rfl (hb hby at_140) rfl rfl ?_
            refine XS.iload X25.here hx rfl (hb hby at_142) rfl ?_
            refine XS.iload X25.here hx rfl (hb hby at_144) rfl ?_
            refine st26 _ ?_
            refine XS.istore X26.here hx rfl (hb hby at_149) rfl (l' := #[iv p0, iv p1, iv p2, iv p3, iv p4, iv (own_n nn), rv b1, rv b3, iv (own_n nn), iv 1, iv (own_n kq13), iv (own_n kq14), iv 0, iv 0, iv (own_n kq24), iv (own_n kq25), iv 1, .unset, .unset, .unset, .unset, .unset, .unset, .unset, .unset, .unset]) rfl ?_
            show oS p e below T26 (mkF m 151 #[iv p0, iv p1, iv p2, iv p3, iv p4, iv (own_n nn), rv b1, rv b3, iv (own_n nn), iv 1, iv (own_n kq13), iv (own_n kq14), iv 0, iv 0, iv (own_n kq24), iv (own_n kq25), iv 1, .unset, .unset, .unset, .unset, .unset, .unset, .unset, .unset, .unset] []) _
            refine XS.aload X26.here hx rfl (hb hby at_151) rfl rfl ?_
            refine XS.iload X26.here hx rfl (hb hby at_153) rfl ?_
            refine XS.iload X26.here hx rfl (hb hby at_155) rfl ?_
            refine st74 _ ?_
            refine XS.istore X74.here hx rfl (hb hby at_160) rfl (l' := #[iv p0, iv p1, iv p2, iv p3, iv p4, iv (own_n nn), rv b1, rv b3, iv (own_n nn), iv 1, iv (own_n kq13), iv (own_n kq14), iv 0, iv 0, iv (own_n kq24), iv (own_n kq25), iv 1, iv 1, .unset, .unset, .unset, .unset, .unset, .unset, .unset, .unset]) rfl ?_
            refine XS.iload X74.here hx rfl (hb hby at_162) rfl ?_
            refine XS.ifNo X74.here hx rfl (hb hby at_164) rfl (XT.i0_eq_f (by decide)) ?_
            refine XS.iload X74.here hx rfl (hb hby at_167) rfl ?_
            show oS p e below T74 (mkF m 169 #[iv p0, iv p1, iv p2, iv p3, iv p4, iv (own_n nn), rv b1, rv b3, iv (own_n nn), iv 1, iv (own_n kq13), iv (own_n kq14), iv 0, iv 0, iv (own_n kq24), iv (own_n kq25), iv 1, iv 1, .unset, .unset, .unset, .unset, .unset, .unset, .unset, .unset] [(.int (own_n nn))]) _
            refine XT.iconstV X74.here hx rfl (1 : Int32) (hb hby at_169) (by decide) ?_
            refine XS.isub X74.here hx rfl (hb hby at_170) rfl ?_
            refine XS.istore X74.here hx rfl (hb hby at_171) rfl (l' := #[iv p0, iv p1, iv p2, iv p3, iv p4, iv (own_n nn), rv b1, rv b3, iv (((own_n nn) - (1 : Int32))), iv 1, iv (own_n kq13), iv (own_n kq14), iv 0, iv 0, iv (own_n kq24), iv (own_n kq25), iv 1, iv 1, .unset, .unset, .unset, .unset, .unset, .unset, .unset, .unset]) rfl ?_
            refine XS.iload X74.here hx rfl (hb hby at_173) rfl ?_
            refine XS.ifNo X74.here hx rfl (hb hby at_175) rfl (XT.i0_eq_f (by decide)) ?_
            refine XS.iload X74.here hx rfl (hb hby at_178) rfl ?_
            refine XS.iload X74.here hx rfl (hb hby at_180) rfl ?_
            refine XS.icmpNo X74.here hx rfl (hb hby at_182) rfl (XT.ii_ne_f (by decide)) ?_
            show oS p e below T74 (mkF m 185 #[iv p0, iv p1, iv p2, iv p3, iv p4, iv (own_n nn), rv b1, rv b3, iv (((own_n nn) - (1 : Int32))), iv 1, iv (own_n kq13), iv (own_n kq14), iv 0, iv 0, iv (own_n kq24), iv (own_n kq25), iv 1, iv 1, .unset, .unset, .unset, .unset, .unset, .unset, .unset, .unset] []) _
            refine XS.aload X74.here hx rfl (hb hby at_185) rfl rfl ?_
            refine st76 _ ?_
            refine XS.iload X76.here hx rfl (hb hby at_190) rfl ?_
            refine XS.icmpNo X76.here hx rfl (hb hby at_192) rfl (XT.ii_ne_f rfl) ?_
            refine XT.iconstV X76.here hx rfl (1 : Int32) (hb hby at_195) (by decide) ?_
            refine XS.goto X76.here hx rfl (pc0 := 196) (pc' := 200) rfl (hb hby at_196) (by decide) (by decide) ?_
            refine XS.istore X76.here hx rfl (hb hby at_200) rfl (l' := #[iv p0, iv p1, iv p2, iv p3, iv p4, iv (own_n nn), rv b1, rv b3, iv (((own_n nn) - (1 : Int32))), iv 1, iv (own_n kq13), iv (own_n kq14), iv 0, iv 0, iv (own_n kq24), iv (own_n kq25), iv 1, iv 1, .unset, .unset, .unset, .unset, .unset, .unset, .unset, .unset]) rfl ?_
            refine XS.iloadN X76.here hx rfl (hb hby at_202) rfl ?_
            show oS p e below T76 (mkF m 203 #[iv p0, iv p1, iv p2, iv p3, iv p4, iv (own_n nn), rv b1, rv b3, iv (((own_n nn) - (1 : Int32))), iv 1, iv (own_n kq13), iv (own_n kq14), iv 0, iv 0, iv (own_n kq24), iv (own_n kq25), iv 1, iv 1, .unset, .unset, .unset, .unset, .unset, .unset, .unset, .unset] [(.int p3)]) _
            refine XS.iload X76.here hx rfl (hb hby at_203) rfl ?_
            refine st78 _ ?_
            refine XS.istore X78.here hx rfl (hb hby at_208) rfl (l' := #[iv p0, iv p1, iv p2, iv p3, iv p4, iv (own_n nn), rv b1, rv b3, iv (((own_n nn) - (1 : Int32))), iv 1, iv (own_n kq13), iv (own_n kq14), iv 0, iv 0, iv (own_n kq24), iv (own_n kq25), iv 1, iv 1, iv (own_n kq78), .unset, .unset, .unset, .unset, .unset, .unset, .unset]) rfl ?_
            refine XS.iloadN X78.here hx rfl (hb hby at_210) rfl ?_
            refine XS.iload X78.here hx rfl (hb hby at_211) rfl ?_
            refine st79 _ ?_
            refine XS.istore X79.here hx rfl (hb hby at_216) rfl (l' := #[iv p0, iv p1, iv p2, iv p3, iv p4, iv (own_n nn), rv b1, rv b3, iv (((own_n nn) - (1 : Int32))), iv 1, iv (own_n kq13), iv (own_n kq14), iv 0, iv 0, iv (own_n kq24), iv (own_n kq25), iv 1, iv 1, iv (own_n kq78), iv (own_n kq79), .unset, .unset, .unset, .unset, .unset, .unset]) rfl ?_
            refine XS.aload X79.here hx rfl (hb hby at_218) rfl rfl ?_
            show oS p e below T79 (mkF m 220 #[iv p0, iv p1, iv p2, iv p3, iv p4, iv (own_n nn), rv b1, rv b3, iv (((own_n nn) - (1 : Int32))), iv 1, iv (own_n kq13), iv (own_n kq14), iv 0, iv 0, iv (own_n kq24), iv (own_n kq25), iv 1, iv 1, iv (own_n kq78), iv (own_n kq79), .unset, .unset, .unset, .unset, .unset, .unset] [(.ref b1)]) _
            refine XS.iload X79.here hx rfl (hb hby at_220) rfl ?_
            refine XS.iload X79.here hx rfl (hb hby at_222) rfl ?_
            refine st82 _ ?_
            refine XS.istore X82.here hx rfl (hb hby at_227) rfl (l' := #[iv p0, iv p1, iv p2, iv p3, iv p4, iv (own_n nn), rv b1, rv b3, iv (((own_n nn) - (1 : Int32))), iv 1, iv (own_n kq13), iv (own_n kq14), iv 0, iv 0, iv (own_n kq24), iv (own_n kq25), iv 1, iv 1, iv (own_n kq78), iv (own_n kq79), iv 1, .unset, .unset, .unset, .unset, .unset]) rfl ?_
            refine XS.aload X82.here hx rfl (hb hby at_229) rfl rfl ?_
            refine XS.iload X82.here hx rfl (hb hby at_231) rfl ?_
            refine XS.iload X82.here hx rfl (hb hby at_233) rfl ?_
            refine st102 _ ?_
            show oS p e below T102 (mkF m 238 #[iv p0, iv p1, iv p2, iv p3, iv p4, iv (own_n nn), rv b1, rv b3, iv (((own_n nn) - (1 : Int32))), iv 1, iv (own_n kq13), iv (own_n kq14), iv 0, iv 0, iv (own_n kq24), iv (own_n kq25), iv 1, iv 1, iv (own_n kq78), iv (own_n kq79), iv 1, .unset, .unset, .unset, .unset, .unset] [(.int 1)]) _
            refine XS.istore X102.here hx rfl (hb hby at_238) rfl (l' := #[iv p0, iv p1, iv p2, iv p3, iv p4, iv (own_n nn), rv b1, rv b3, iv (((own_n nn) - (1 : Int32))), iv 1, iv (own_n kq13), iv (own_n kq14), iv 0, iv 0, iv (own_n kq24), iv (own_n kq25), iv 1, iv 1, iv (own_n kq78), iv (own_n kq79), iv 1, iv 1, .unset, .unset, .unset, .unset]) rfl ?_
            refine XS.iload X102.here hx rfl (hb hby at_240) rfl ?_
            refine XS.ifNo X102.here hx rfl (hb hby at_242) rfl (XT.i0_eq_f (by decide)) ?_
            refine XS.iload X102.here hx rfl (hb hby at_245) rfl ?_
            refine XT.iconstV X102.here hx rfl (1 : Int32) (hb hby at_247) (by decide) ?_
            refine XS.isub X102.here hx rfl (hb hby at_248) rfl ?_
            refine XS.istore X102.here hx rfl (hb hby at_249) rfl (l' := #[iv p0, iv p1, iv p2, iv p3, iv p4, iv (own_n nn), rv b1, rv b3, iv ((((own_n nn) - (1 : Int32)) - (1 : Int32))), iv 1, iv (own_n kq13), iv (own_n kq14), iv 0, iv 0, iv (own_n kq24), iv (own_n kq25), iv 1, iv 1, iv (own_n kq78), iv (own_n kq79), iv 1, iv 1, .unset, .unset, .unset, .unset]) rfl ?_
            refine XS.iload X102.here hx rfl (hb hby at_251) rfl ?_
            show oS p e below T102 (mkF m 253 #[iv p0, iv p1, iv p2, iv p3, iv p4, iv (own_n nn), rv b1, rv b3, iv ((((own_n nn) - (1 : Int32)) - (1 : Int32))), iv 1, iv (own_n kq13), iv (own_n kq14), iv 0, iv 0, iv (own_n kq24), iv (own_n kq25), iv 1, iv 1, iv (own_n kq78), iv (own_n kq79), iv 1, iv 1, .unset, .unset, .unset, .unset] [(.int 1)]) _
            refine XS.ifNo X102.here hx rfl (hb hby at_253) rfl (XT.i0_eq_f (by decide)) ?_
            refine XS.iload X102.here hx rfl (hb hby at_256) rfl ?_
            refine XS.iload X102.here hx rfl (hb hby at_258) rfl ?_
            refine XS.icmpNo X102.here hx rfl (hb hby at_260) rfl (XT.ii_ne_f (by decide)) ?_
            refine XS.aload X102.here hx rfl (hb hby at_263) rfl rfl ?_
            refine st104 _ ?_
            refine XS.iload X104.here hx rfl (hb hby at_268) rfl ?_
            refine XS.icmpNo X104.here hx rfl (hb hby at_270) rfl (XT.ii_ne_f rfl) ?_
            show oS p e below T104 (mkF m 273 #[iv p0, iv p1, iv p2, iv p3, iv p4, iv (own_n nn), rv b1, rv b3, iv ((((own_n nn) - (1 : Int32)) - (1 : Int32))), iv 1, iv (own_n kq13), iv (own_n kq14), iv 0, iv 0, iv (own_n kq24), iv (own_n kq25), iv 1, iv 1, iv (own_n kq78), iv (own_n kq79), iv 1, iv 1, .unset, .unset, .unset, .unset] []) _
            refine XT.iconstV X104.here hx rfl (1 : Int32) (hb hby at_273) (by decide) ?_
            refine XS.goto X104.here hx rfl (pc0 := 274) (pc' := 278) rfl (hb hby at_274) (by decide) (by decide) ?_
            refine XS.istore X104.here hx rfl (hb hby at_278) rfl (l' := #[iv p0, iv p1, iv p2, iv p3, iv p4, iv (own_n nn), rv b1, rv b3, iv ((((own_n nn) - (1 : Int32)) - (1 : Int32))), iv 1, iv (own_n kq13), iv (own_n kq14), iv 0, iv 0, iv (own_n kq24), iv (own_n kq25), iv 1, iv 1, iv (own_n kq78), iv (own_n kq79), iv 1, iv 1, .unset, .unset, .unset, .unset]) rfl ?_
            refine XS.iload X104.here hx rfl (hb hby at_280) rfl ?_
            refine XS.iload X104.here hx rfl (hb hby at_282) rfl ?_
            refine st106 _ ?_
            refine XS.istore X106.here hx rfl (hb hby at_287) rfl (l' := #[iv p0, iv p1, iv p2, iv p3, iv p4, iv (own_n nn), rv b1, rv b3, iv ((((own_n nn) - (1 : Int32)) - (1 : Int32))), iv 1, iv (own_n kq13), iv (own_n kq14), iv 0, iv 0, iv (own_n kq24), iv (own_n kq25), iv 1, iv 1, iv (own_n kq78), iv (own_n kq79), iv 1, iv 1, iv (own_n kq106), .unset, .unset, .unset]) rfl ?_
            refine XS.iload X106.here hx rfl (hb hby at_289) rfl ?_
            show oS p e below T106 (mkF m 291 #[iv p0, iv p1, iv p2, iv p3, iv p4, iv (own_n nn), rv b1, rv b3, iv ((((own_n nn) - (1 : Int32)) - (1 : Int32))), iv 1, iv (own_n kq13), iv (own_n kq14), iv 0, iv 0, iv (own_n kq24), iv (own_n kq25), iv 1, iv 1, iv (own_n kq78), iv (own_n kq79), iv 1, iv 1, iv (own_n kq106), .unset, .unset, .unset] [(.int p4)]) _
            refine XS.iload X106.here hx rfl (hb hby at_291) rfl ?_
            refine st107 _ ?_
            refine XS.istore X107.here hx rfl (hb hby at_296) rfl (l' := #[iv p0, iv p1, iv p2, iv p3, iv p4, iv (own_n nn), rv b1, rv b3, iv ((((own_n nn) - (1 : Int32)) - (1 : Int32))), iv 1, iv (own_n kq13), iv (own_n kq14), iv 0, iv 0, iv (own_n kq24), iv (own_n kq25), iv 1, iv 1, iv (own_n kq78), iv (own_n kq79), iv 1, iv 1, iv (own_n kq106), iv (own_n kq107), .unset, .unset]) rfl ?_
            refine XS.aload X107.here hx rfl (hb hby at_298) rfl rfl ?_
            refine XS.iload X107.here hx rfl (hb hby at_300) rfl ?_
            refine XS.iload X107.here hx rfl (hb hby at_302) rfl ?_
            refine st110 _ ?_
            refine XS.istore X110.here hx rfl (hb hby at_307) rfl (l' := #[iv p0, iv p1, iv p2, iv p3, iv p4, iv (own_n nn), rv b1, rv b3, iv ((((own_n nn) - (1 : Int32)) - (1 : Int32))), iv 1, iv (own_n kq13), iv (own_n kq14), iv 0, iv 0, iv (own_n kq24), iv (own_n kq25), iv 1, iv 1, iv (own_n kq78), iv (own_n kq79), iv 1, iv 1, iv (own_n kq106), iv (own_n kq107), iv 0, .unset]) rfl ?_
            show oS p e below T110 (mkF m 309 #[iv p0, iv p1, iv p2, iv p3, iv p4, iv (own_n nn), rv b1, rv b3, iv ((((own_n nn) - (1 : Int32)) - (1 : Int32))), iv 1, iv (own_n kq13), iv (own_n kq14), iv 0, iv 0, iv (own_n kq24), iv (own_n kq25), iv 1, iv 1, iv (own_n kq78), iv (own_n kq79), iv 1, iv 1, iv (own_n kq106), iv (own_n kq107), iv 0, .unset] []) _
            refine XS.aload X110.here hx rfl (hb hby at_309) rfl rfl ?_
            refine XS.iload X110.here hx rfl (hb hby at_311) rfl ?_
            refine XS.iload X110.here hx rfl (hb hby at_313) rfl ?_
            refine st112 _ ?_
            refine XS.istore X112.here hx rfl (hb hby at_318) rfl (l' := #[iv p0, iv p1, iv p2, iv p3, iv p4, iv (own_n nn), rv b1, rv b3, iv ((((own_n nn) - (1 : Int32)) - (1 : Int32))), iv 1, iv (own_n kq13), iv (own_n kq14), iv 0, iv 0, iv (own_n kq24), iv (own_n kq25), iv 1, iv 1, iv (own_n kq78), iv (own_n kq79), iv 1, iv 1, iv (own_n kq106), iv (own_n kq107), iv 0, iv 0]) rfl ?_
            refine XS.iload X112.here hx rfl (hb hby at_320) rfl ?_
            refine XS.ifYes X112.here hx rfl (pc0 := 322) (pc' := 331) rfl (hb hby at_322) rfl (XT.i0_eq_t (by decide)) (by decide) (by decide) ?_
            refine XS.iload X112.here hx rfl (hb hby at_331) rfl ?_
            show oS p e below T112 (mkF m 333 #[iv p0, iv p1, iv p2, iv p3, iv p4, iv (own_n nn), rv b1, rv b3, iv ((((own_n nn) - (1 : Int32)) - (1 : Int32))), iv 1, iv (own_n kq13), iv (own_n kq14), iv 0, iv 0, iv (own_n kq24), iv (own_n kq25), iv 1, iv 1, iv (own_n kq78), iv (own_n kq79), iv 1, iv 1, iv (own_n kq106), iv (own_n kq107), iv 0, iv 0] [(.int 1)]) _
            refine XS.ifNo X112.here hx rfl (hb hby at_333) rfl (XT.i0_eq_f (by decide)) ?_
            refine XS.iload X112.here hx rfl (hb hby at_336) rfl ?_
            refine XS.iload X112.here hx rfl (hb hby at_338) rfl ?_
            refine XS.icmpNo X112.here hx rfl (hb hby at_340) rfl (XT.ii_ne_f (by decide)) ?_
            refine XS.aload X112.here hx rfl (hb hby at_343) rfl rfl ?_
            refine st113 _ ?_
            refine XS.iload X113.here hx rfl (hb hby at_348) rfl ?_
            refine XS.icmpNo X113.here hx rfl (hb hby at_350) rfl (XT.ii_ne_f rfl) ?_
            show oS p e below T113 (mkF m 353 #[iv p0, iv p1, iv p2, iv p3, iv p4, iv (own_n nn), rv b1, rv b3, iv ((((own_n nn) - (1 : Int32)) - (1 : Int32))), iv 1, iv (own_n kq13), iv (own_n kq14), iv 0, iv 0, iv (own_n kq24), iv (own_n kq25), iv 1, iv 1, iv (own_n kq78), iv (own_n kq79), iv 1, iv 1, iv (own_n kq106), iv (own_n kq107), iv 0, iv 0] []) _
            refine XT.iconstV X113.here hx rfl (1 : Int32) (hb hby at_353) (by decide) ?_
            refine XS.goto X113.here hx rfl (pc0 := 354) (pc' := 358) rfl (hb hby at_354) (by decide) (by decide) ?_
            refine XS.istore X113.here hx rfl (hb hby at_358) rfl (l' := #[iv p0, iv p1, iv p2, iv p3, iv p4, iv (own_n nn), rv b1, rv b3, iv ((((own_n nn) - (1 : Int32)) - (1 : Int32))), iv 1, iv (own_n kq13), iv (own_n kq14), iv 0, iv 0, iv (own_n kq24), iv (own_n kq25), iv 1, iv 1, iv (own_n kq78), iv (own_n kq79), iv 1, iv 1, iv (own_n kq106), iv (own_n kq107), iv 0, iv 0]) rfl ?_
            refine XS.iload X113.here hx rfl (hb hby at_360) rfl ?_
            exact kz)
          obtain ⟨fs, hr, hrun, hended, hW, hsame⟩ := X113.leave (v := some (.int 1)) (fun h => by rw [Bd.returns] at h; cases h)
          refine ⟨_, _, pre0 _ (S115 _ ?_), hrun, hended, _, _, rfl, ?_, ⟨_, rfl⟩, hW, hsame.mono (by decide) (by decide)⟩
          · exact retN X113 hx (t := .boolean) Bd.returns (by simp) (hb hby at_362) hr
          · show Qrm0s Z p0 p1 p2 p3 p4 nn h0 n0 _ T113.heap _
            rw [e113]
            exact ⟨rfl, N113⟩
        · have N110 := Fr.app N107 N110q
          have e110 : T110.heap = T110.heap := rfl
          have Zk110 : n0 ≤ T110.heap.size := Nat.le_trans Zk102 K110.1
          have Kk110 : Keep h0 T110.heap [] := Kk102.trans K110 (allS (Or.inr sz_b1) (allS (Or.inr sz_b2') all0))
          have f116 := (B102.keep K110 (ninS (Ne.symm ne_b1_b3) (ninS (Ne.symm ne_b2'_b3) nin0)))
          obtain ⟨_, T117, Lc117, X117, hQ117, st117⟩ := own_callS (W := 0) (y := mN5) X110 hx hZ hown (hw _ (own_w 30 rfl)) (hw _ (own_w 31 rfl)) (hw _ (own_w 16 rfl)) (hw _ (own_w 32 rfl)) (by decide) (rmRef1 l Z av0 hw [] b3 k3 (own_L (own_L own_n (own_n kq24) (own_n kq25)) ((own_L own_n (own_n kq24) (own_n kq25)) kq78) ((own_L own_n (own_n kq24) (own_n kq25)) kq79)) kq106 kq107 T110.heap n0 Zk110 f116 (Nat.lt_of_lt_of_le lq106 hnn) (Nat.lt_of_lt_of_le lq107 hnn) ge_b3 (fun q => rs110 ((RL102 _ lq106 _ lq107).mpr q))) (by decide) (by decide) (g := (mkF m 315 #[iv p0, iv p1, iv p2, iv p3, iv p4, iv (own_n nn), rv b1, rv b3, iv ((((own_n nn) - (1 : Int32)) - (1 : Int32))), iv 1, iv (own_n kq13), iv (own_n kq14), iv 0, iv 0, iv (own_n kq24), iv (own_n kq25), iv 1, iv 1, iv (own_n kq78), iv (own_n kq79), iv 1, iv 1, iv (own_n kq106), iv (own_n kq107), iv 1, .unset] [(.int (own_n kq107)), (.int (own_n kq106)), (.ref b3)])) rfl (by rw [hml]; rfl) (argsL := [(.ref b3), (.int (own_n kq106)), (.int (own_n kq107))]) (rest := []) (lenOf pd__III_Z rfl) rfl (hb hby at_315) rfl e110 (by decide : 3 + 0 ≤ _) (by decide : 10 + 0 ≤ _)
          obtain ⟨rfl, N117q, K117, B117⟩ := hQ117
          have N117 := Fr.app N110 N117q
          have e117 : T117.heap = T117.heap := rfl
          have Zk117 : n0 ≤ T117.heap.size := Nat.le_trans Zk110 K117.1
          have Kk117 : Keep h0 T117.heap [] := Kk110.trans K117 (allS (Or.inr sz_b3) all0)
          have RL117 := own_RL RL102 lq106 lq107
          have f118 := (C110.keep K117 (ninS ne_b1_b3 nin0))
          have f120 := ((f105.keep K110).keep K117)
          obtain ⟨_, T119, Lc119, X119, hQ119, st119⟩ := own_virtual (W := 0) (y := mN0) (z := mN0) X117 hx hZ hown (hw _ (own_w 33 rfl)) (hw _ (own_w 34 rfl)) (notFace_of_selects (args := #[]) (mvT hZ (hw _ (own_w 36 rfl)))) (hw _ (own_w 36 rfl)) (hw _ (own_w 35 rfl)) (hw _ (own_w 37 rfl)) (hw _ (own_w 2 rfl)) (by decide) (rmCount l Z av0 hw [] b1 ((((own_n nn) - (1 : Int32)) - (1 : Int32)) - (1 : Int32)) T117.heap n0 Zk117 f118) (by decide) (by decide) f120 (g := (mkF m 345 #[iv p0, iv p1, iv p2, iv p3, iv p4, iv (own_n nn), rv b1, rv b3, iv (((((own_n nn) - (1 : Int32)) - (1 : Int32)) - (1 : Int32))), iv 1, iv (own_n kq13), iv (own_n kq14), iv 0, iv 0, iv (own_n kq24), iv (own_n kq25), iv 1, iv 1, iv (own_n kq78), iv (own_n kq79), iv 1, iv 1, iv (own_n kq106), iv (own_n kq107), iv 1, iv 1] [(.ref b1)])) rfl (by rw [hml]; rfl) (argsL := []) (rest := []) (lenOf pd__I rfl) rfl (hb hby at_345) rfl e117 (by decide : 3 + 0 ≤ _) (by decide : 10 + 0 ≤ _)
          obtain ⟨rfl, N119q, hh119⟩ := hQ119
          have N119 := Fr.app N117 N119q
          have e119 : T119.heap = T117.heap := hh119
          have S121 : ∀ tz, oS p e below T119 (mkF m 362 #[iv p0, iv p1, iv p2, iv p3, iv p4, iv (own_n nn), rv b1, rv b3, iv (((((own_n nn) - (1 : Int32)) - (1 : Int32)) - (1 : Int32))), iv 1, iv (own_n kq13), iv (own_n kq14), iv 0, iv 0, iv (own_n kq24), iv (own_n kq25), iv 1, iv 1, iv (own_n kq78), iv (own_n kq79), iv 1, iv 1, iv (own_n kq106), iv (own_n kq107), iv 1, iv 1] [(.int 1)]) tz → oS p e below s₁ (mkF m 0 #[iv p0, iv p1, iv p2, iv p3, iv p4, .unset, .unset, .unset, .unset, .unset, .unset, .unset, .unset, .unset, .unset, .unset, .unset, .unset, .unset, .unset, .unset, .unset, .unset, .unset, .unset, .unset] []) tz := fun tz kz => id (by
            show oS p e below s₁ (mkF m 0 #[iv p0, iv p1, iv p2, iv p3, iv p4, .unset, .unset, .unset, .unset, .unset, .unset, .unset, .unset, .unset, .unset, .unset, .unset, .unset, .unset, .unset, .unset, .unset, .unset, .unset, .unset, .unset] []) _
            refine XT.iconstV X0.here hx rfl (1 : Int32) (hb hby at_0) (by decide) ?_
            refine XS.iloadN X0.here hx rfl (hb hby at_1) rfl ?_
            refine XT.iconstV X0.here hx rfl (3 : Int32) (hb hby at_2) (by decide) ?_
            refine XS.iand X0.here hx rfl (hb hby at_3) rfl ?_
            refine XS.iadd X0.here hx rfl (hb hby at_4) rfl ?_
            show oS p e below s₁ (mkF m 5 #[iv p0, iv p1, iv p2, iv p3, iv p4, .unset, .unset, .unset, .unset, .unset, .unset, .unset, .unset, .unset, .unset, .unset, .unset, .unset, .unset, .unset, .unset, .unset, .unset, .unset, .unset, .unset] [(.int ((1 : Int32) + (p0 &&& (3 : Int32))))]) _
            rw [hn]
            show oS p e below s₁ (mkF m 5 #[iv p0, iv p1, iv p2, iv p3, iv p4, .unset, .unset, .unset, .unset, .unset, .unset, .unset, .unset, .unset, .unset, .unset, .unset, .unset, .unset, .unset, .unset, .unset, .unset, .unset, .unset, .unset] [(.int (own_n nn))]) _
            refine XS.istore X0.here hx rfl (hb hby at_5) rfl (l' := #[iv p0, iv p1, iv p2, iv p3, iv p4, iv (own_n nn), .unset, .unset, .unset, .unset, .unset, .unset, .unset, .unset, .unset, .unset, .unset, .unset, .unset, .unset, .unset, .unset, .unset, .unset, .unset, .unset]) rfl ?_
            refine st1 _ ?_
            show oS p e below T1 (mkF m 10 #[iv p0, iv p1, iv p2, iv p3, iv p4, iv (own_n nn), .unset, .unset, .unset, .unset, .unset, .unset, .unset, .unset, .unset, .unset, .unset, .unset, .unset, .unset, .unset, .unset, .unset, .unset, .unset, .unset] [(.ref b1)]) _
            refine XS.dup X1.here hx rfl (hb hby at_10) rfl rfl ?_
            refine XS.iload X1.here hx rfl (hb hby at_11) rfl ?_
            refine st2 _ ?_
            refine XS.astore X2.here hx rfl (hb hby at_16) rfl rfl (l' := #[iv p0, iv p1, iv p2, iv p3, iv p4, iv (own_n nn), rv b1, .unset, .unset, .unset, .unset, .unset, .unset, .unset, .unset, .unset, .unset, .unset, .unset, .unset, .unset, .unset, .unset, .unset, .unset, .unset]) rfl ?_
            refine XT.iconstV X2.here hx rfl (4 : Int32) (hb hby at_18) (by decide) ?_
            refine st3 _ ?_
            refine XS.dup X3.here hx rfl (hb hby at_21) rfl rfl ?_
            refine XT.iconstV X3.here hx rfl (0 : Int32) (hb hby at_22) (by decide) ?_
            show oS p e below T3 (mkF m 23 #[iv p0, iv p1, iv p2, iv p3, iv p4, iv (own_n nn), rv b1, .unset, .unset, .unset, .unset, .unset, .unset, .unset, .unset, .unset, .unset, .unset, .unset, .unset, .unset, .unset, .unset, .unset, .unset, .unset] [(.int 0), (.ref b3), (.ref b3)]) _
            refine XT.iconstV X3.here hx rfl (0 : Int32) (hb hby at_23) (by decide) ?_
            refine st6 _ ?_
            refine XS.dup X6.here hx rfl (hb hby at_25) rfl rfl ?_
            refine XT.iconstV X6.here hx rfl (1 : Int32) (hb hby at_26) (by decide) ?_
            refine XT.iconstV X6.here hx rfl (1 : Int32) (hb hby at_27) (by decide) ?_
            refine st8 _ ?_
            refine XS.dup X8.here hx rfl (hb hby at_29) rfl rfl ?_
            refine XT.iconstV X8.here hx rfl (2 : Int32) (hb hby at_30) (by decide) ?_
            show oS p e below T8 (mkF m 31 #[iv p0, iv p1, iv p2, iv p3, iv p4, iv (own_n nn), rv b1, .unset, .unset, .unset, .unset, .unset, .unset, .unset, .unset, .unset, .unset, .unset, .unset, .unset, .unset, .unset, .unset, .unset, .unset, .unset] [(.int 2), (.ref b3), (.ref b3)]) _
            refine XT.iconstV X8.here hx rfl (2 : Int32) (hb hby at_31) (by decide) ?_
            refine st10 _ ?_
            refine XS.dup X10.here hx rfl (hb hby at_33) rfl rfl ?_
            refine XT.iconstV X10.here hx rfl (3 : Int32) (hb hby at_34) (by decide) ?_
            refine XT.iconstV X10.here hx rfl (3 : Int32) (hb hby at_35) (by decide) ?_
            refine st12 _ ?_
            refine XS.astore X12.here hx rfl (hb hby at_37) rfl rfl (l' := #[iv p0, iv p1, iv p2, iv p3, iv p4, iv (own_n nn), rv b1, rv b3, .unset, .unset, .unset, .unset, .unset, .unset, .unset, .unset, .unset, .unset, .unset, .unset, .unset, .unset, .unset, .unset, .unset, .unset]) rfl ?_
            refine XS.iload X12.here hx rfl (hb hby at_39) rfl ?_
            show oS p e below T12 (mkF m 41 #[iv p0, iv p1, iv p2, iv p3, iv p4, iv (own_n nn), rv b1, rv b3, .unset, .unset, .unset, .unset, .unset, .unset, .unset, .unset, .unset, .unset, .unset, .unset, .unset, .unset, .unset, .unset, .unset, .unset] [(.int (own_n nn))]) _
            refine XS.istore X12.here hx rfl (hb hby at_41) rfl (l' := #[iv p0, iv p1, iv p2, iv p3, iv p4, iv (own_n nn), rv b1, rv b3, iv (own_n nn), .unset, .unset, .unset, .unset, .unset, .unset, .unset, .unset, .unset, .unset, .unset, .unset, .unset, .unset, .unset, .unset, .unset]) rfl ?_
            refine XT.iconstV X12.here hx rfl (1 : Int32) (hb hby at_43) (by decide) ?_
            refine XS.istore X12.here hx rfl (hb hby at_44) rfl (l' := #[iv p0, iv p1, iv p2, iv p3, iv p4, iv (own_n nn), rv b1, rv b3, iv (own_n nn), iv 1, .unset, .unset, .unset, .unset, .unset, .unset, .unset, .unset, .unset, .unset, .unset, .unset, .unset, .unset, .unset, .unset]) rfl ?_
            refine XS.iloadN X12.here hx rfl (hb hby at_46) rfl ?_
            refine XS.iload X12.here hx rfl (hb hby at_47) rfl ?_
            refine st13 _ ?_
            refine XS.istore X13.here hx rfl (hb hby at_52) rfl (l' := #[iv p0, iv p1, iv p2, iv p3, iv p4, iv (own_n nn), rv b1, rv b3, iv (own_n nn), iv 1, iv (own_n kq13), .unset, .unset, .unset, .unset, .unset, .unset, .unset, .unset, .unset, .unset, .unset, .unset, .unset, .unset, .unset]) rfl ?_
            refine XS.iloadN X13.here hx rfl (hb hby at_54) rfl ?_
            show oS p e below T13 (mkF m 55 #[iv p0, iv p1, iv p2, iv p3, iv p4, iv (own_n nn), rv b1, rv b3, iv (own_n nn), iv 1, iv (own_n kq13), .unset, .unset, .unset, .unset, .unset, .unset, .unset, .unset, .unset, .unset, .unset, .unset, .unset, .unset, .unset] [(.int p1)]) _
            refine XS.iload X13.here hx rfl (hb hby at_55) rfl ?_
            refine st14 _ ?_
            refine XS.istore X14.here hx rfl (hb hby at_60) rfl (l' := #[iv p0, iv p1, iv p2, iv p3, iv p4, iv (own_n nn), rv b1, rv b3, iv (own_n nn), iv 1, iv (own_n kq13), iv (own_n kq14), .unset, .unset, .unset, .unset, .unset, .unset, .unset, .unset, .unset, .unset, .unset, .unset, .unset, .unset]) rfl ?_
            refine XS.aload X14.here hx rfl (hb hby at_62) rfl rfl ?_
            refine XS.iload X14.here hx rfl (hb hby at_64) rfl ?_
            refine XS.iload X14.here hx rfl (hb hby at_66) rfl ?_
            refine st19 _ ?_
            refine XS.istore X19.here hx rfl (hb hby at_71) rfl (l' := #[iv p0, iv p1, iv p2, iv p3, iv p4, iv (own_n nn), rv b1, rv b3, iv (own_n nn), iv 1, iv (own_n kq13), iv (own_n kq14), iv 0, .unset, .unset, .unset, .unset, .unset, .unset, .unset, .unset, .unset, .unset, .unset, .unset, .unset]) rfl ?_
            show oS p e below T19 (mkF m 73 #[iv p0, iv p1, iv p2, iv p3, iv p4, iv (own_n nn), rv b1, rv b3, iv (own_n nn), iv 1, iv (own_n kq13), iv (own_n kq14), iv 0, .unset, .unset, .unset, .unset, .unset, .unset, .unset, .unset, .unset, .unset, .unset, .unset, .unset] []) _
            refine XS.aload X19.here hx rfl (hb hby at_73) rfl rfl ?_
            refine XS.iload X19.here hx rfl (hb hby at_75) rfl ?_
            refine XS.iload X19.here hx rfl (hb hby at_77) rfl ?_
            refine st21 _ ?_
            refine XS.istore X21.here hx rfl (hb hby at_82) rfl (l' := #[iv p0, iv p1, iv p2, iv p3, iv p4, iv (own_n nn), rv b1, rv b3, iv (own_n nn), iv 1, iv (own_n kq13), iv (own_n kq14), iv 0, iv 0, .unset, .unset, .unset, .unset, .unset, .unset, .unset, .unset, .unset, .unset, .unset, .unset]) rfl ?_
            refine XS.iload X21.here hx rfl (hb hby at_84) rfl ?_
            refine XS.ifYes X21.here hx rfl (pc0 := 86) (pc' := 95) rfl (hb hby at_86) rfl (XT.i0_eq_t (by decide)) (by decide) (by decide) ?_
            refine XS.iload X21.here hx rfl (hb hby at_95) rfl ?_
            show oS p e below T21 (mkF m 97 #[iv p0, iv p1, iv p2, iv p3, iv p4, iv (own_n nn), rv b1, rv b3, iv (own_n nn), iv 1, iv (own_n kq13), iv (own_n kq14), iv 0, iv 0, .unset, .unset, .unset, .unset, .unset, .unset, .unset, .unset, .unset, .unset, .unset, .unset] [(.int 1)]) _
            refine XS.ifNo X21.here hx rfl (hb hby at_97) rfl (XT.i0_eq_f (by decide)) ?_
            refine XS.iload X21.here hx rfl (hb hby at_100) rfl ?_
            refine XS.iload X21.here hx rfl (hb hby at_102) rfl ?_
            refine XS.icmpNo X21.here hx rfl (hb hby at_104) rfl (XT.ii_ne_f (by decide)) ?_
            refine XS.aload X21.here hx rfl (hb hby at_107) rfl rfl ?_
            refine st22 _ ?_
            refine XS.iload X22.here hx rfl (hb hby at_112) rfl ?_
            refine XS.icmpNo X22.here hx rfl (hb hby at_114) rfl (XT.ii_ne_f rfl) ?_
            show oS p e below T22 (mkF m 117 #[iv p0, iv p1, iv p2, iv p3, iv p4, iv (own_n nn), rv b1, rv b3, iv (own_n nn), iv 1, iv (own_n kq13), iv (own_n kq14), iv 0, iv 0, .unset, .unset, .unset, .unset, .unset, .unset, .unset, .unset, .unset, .unset, .unset, .unset] []) _
            refine XT.iconstV X22.here hx rfl (1 : Int32) (hb hby at_117) (by decide) ?_
            refine XS.goto X22.here hx rfl (pc0 := 118) (pc' := 122) rfl (hb hby at_118) (by decide) (by decide) ?_
            refine XS.istore X22.here hx rfl (hb hby at_122) rfl (l' := #[iv p0, iv p1, iv p2, iv p3, iv p4, iv (own_n nn), rv b1, rv b3, iv (own_n nn), iv 1, iv (own_n kq13), iv (own_n kq14), iv 0, iv 0, .unset, .unset, .unset, .unset, .unset, .unset, .unset, .unset, .unset, .unset, .unset, .unset]) rfl ?_
            refine XS.iloadN X22.here hx rfl (hb hby at_124) rfl ?_
            refine XS.iload X22.here hx rfl (hb hby at_125) rfl ?_
            refine st24 _ ?_
            refine XS.istore X24.here hx rfl (hb hby at_130) rfl (l' := #[iv p0, iv p1, iv p2, iv p3, iv p4, iv (own_n nn), rv b1, rv b3, iv (own_n nn), iv 1, iv (own_n kq13), iv (own_n kq14), iv 0, iv 0, iv (own_n kq24), .unset, .unset, .unset, .unset, .unset, .unset, .unset, .unset, .unset, .unset, .unset]) rfl ?_
            refine XS.iloadN X24.here hx rfl (hb hby at_132) rfl ?_
            show oS p e below T24 (mkF m 133 #[iv p0, iv p1, iv p2, iv p3, iv p4, iv (own_n nn), rv b1, rv b3, iv (own_n nn), iv 1, iv (own_n kq13), iv (own_n kq14), iv 0, iv 0, iv (own_n kq24), .unset, .unset, .unset, .unset, .unset, .unset, .unset, .unset, .unset, .unset, .unset] [(.int p2)]) _
            refine XS.iload X24.here hx rfl (hb hby at_133) rfl ?_
            refine st25 _ ?_
            refine XS.istore X25.here hx rfl (hb hby at_138) rfl (l' := #[iv p0, iv p1, iv p2, iv p3, iv p4, iv (own_n nn), rv b1, rv b3, iv (own_n nn), iv 1, iv (own_n kq13), iv (own_n kq14), iv 0, iv 0, iv (own_n kq24), iv (own_n kq25), .unset, .unset, .unset, .unset, .unset, .unset, .unset, .unset, .unset, .unset]) rfl ?_
            refine XS.aload X25.here hx rfl (hb hby at_140) rfl rfl ?_
            refine XS.iload X25.here hx rfl (hb hby at_142) rfl ?_
            refine XS.iload X25.here hx rfl (hb hby at_144) rfl ?_
            refine st26 _ ?_
            refine XS.istore X26.here hx rfl (hb hby at_149) rfl (l' := #[iv p0, iv p1, iv p2, iv p3, iv p4, iv (own_n nn), rv b1, rv b3, iv (own_n nn), iv 1, iv (own_n kq13), iv (own_n kq14), iv 0, iv 0, iv (own_n kq24), iv (own_n kq25), iv 1, .unset, .unset, .unset, .unset, .unset, .unset, .unset, .unset, .unset]) rfl ?_
            show oS p e below T26 (mkF m 151 #[iv p0, iv p1, iv p2, iv p3, iv p4, iv (own_n nn), rv b1, rv b3, iv (own_n nn), iv 1, iv (own_n kq13), iv (own_n kq14), iv 0, iv 0, iv (own_n kq24), iv (own_n kq25), iv 1, .unset, .unset, .unset, .unset, .unset, .unset, .unset, .unset, .unset] []) _
            refine XS.aload X26.here hx rfl (hb hby at_151) rfl rfl ?_
            refine XS.iload X26.here hx rfl (hb hby at_153) rfl ?_
            refine XS.iload X26.here hx rfl (hb hby at_155) rfl ?_
            refine st74 _ ?_
            refine XS.istore X74.here hx rfl (hb hby at_160) rfl (l' := #[iv p0, iv p1, iv p2, iv p3, iv p4, iv (own_n nn), rv b1, rv b3, iv (own_n nn), iv 1, iv (own_n kq13), iv (own_n kq14), iv 0, iv 0, iv (own_n kq24), iv (own_n kq25), iv 1, iv 1, .unset, .unset, .unset, .unset, .unset, .unset, .unset, .unset]) rfl ?_
            refine XS.iload X74.here hx rfl (hb hby at_162) rfl ?_
            refine XS.ifNo X74.here hx rfl (hb hby at_164) rfl (XT.i0_eq_f (by decide)) ?_
            refine XS.iload X74.here hx rfl (hb hby at_167) rfl ?_
            show oS p e below T74 (mkF m 169 #[iv p0, iv p1, iv p2, iv p3, iv p4, iv (own_n nn), rv b1, rv b3, iv (own_n nn), iv 1, iv (own_n kq13), iv (own_n kq14), iv 0, iv 0, iv (own_n kq24), iv (own_n kq25), iv 1, iv 1, .unset, .unset, .unset, .unset, .unset, .unset, .unset, .unset] [(.int (own_n nn))]) _
            refine XT.iconstV X74.here hx rfl (1 : Int32) (hb hby at_169) (by decide) ?_
            refine XS.isub X74.here hx rfl (hb hby at_170) rfl ?_
            refine XS.istore X74.here hx rfl (hb hby at_171) rfl (l' := #[iv p0, iv p1, iv p2, iv p3, iv p4, iv (own_n nn), rv b1, rv b3, iv (((own_n nn) - (1 : Int32))), iv 1, iv (own_n kq13), iv (own_n kq14), iv 0, iv 0, iv (own_n kq24), iv (own_n kq25), iv 1, iv 1, .unset, .unset, .unset, .unset, .unset, .unset, .unset, .unset]) rfl ?_
            refine XS.iload X74.here hx rfl (hb hby at_173) rfl ?_
            refine XS.ifNo X74.here hx rfl (hb hby at_175) rfl (XT.i0_eq_f (by decide)) ?_
            refine XS.iload X74.here hx rfl (hb hby at_178) rfl ?_
            refine XS.iload X74.here hx rfl (hb hby at_180) rfl ?_
            refine XS.icmpNo X74.here hx rfl (hb hby at_182) rfl (XT.ii_ne_f (by decide)) ?_
            show oS p e below T74 (mkF m 185 #[iv p0, iv p1, iv p2, iv p3, iv p4, iv (own_n nn), rv b1, rv b3, iv (((own_n nn) - (1 : Int32))), iv 1, iv (own_n kq13), iv (own_n kq14), iv 0, iv 0, iv (own_n kq24), iv (own_n kq25), iv 1, iv 1, .unset, .unset, .unset, .unset, .unset, .unset, .unset, .unset] []) _
            refine XS.aload X74.here hx rfl (hb hby at_185) rfl rfl ?_
            refine st76 _ ?_
            refine XS.iload X76.here hx rfl (hb hby at_190) rfl ?_
            refine XS.icmpNo X76.here hx rfl (hb hby at_192) rfl (XT.ii_ne_f rfl) ?_
            refine XT.iconstV X76.here hx rfl (1 : Int32) (hb hby at_195) (by decide) ?_
            refine XS.goto X76.here hx rfl (pc0 := 196) (pc' := 200) rfl (hb hby at_196) (by decide) (by decide) ?_
            refine XS.istore X76.here hx rfl (hb hby at_200) rfl (l' := #[iv p0, iv p1, iv p2, iv p3, iv p4, iv (own_n nn), rv b1, rv b3, iv (((own_n nn) - (1 : Int32))), iv 1, iv (own_n kq13), iv (own_n kq14), iv 0, iv 0, iv (own_n kq24), iv (own_n kq25), iv 1, iv 1, .unset, .unset, .unset, .unset, .unset, .unset, .unset, .unset]) rfl ?_
            refine XS.iloadN X76.here hx rfl (hb hby at_202) rfl ?_
            show oS p e below T76 (mkF m 203 #[iv p0, iv p1, iv p2, iv p3, iv p4, iv (own_n nn), rv b1, rv b3, iv (((own_n nn) - (1 : Int32))), iv 1, iv (own_n kq13), iv (own_n kq14), iv 0, iv 0, iv (own_n kq24), iv (own_n kq25), iv 1, iv 1, .unset, .unset, .unset, .unset, .unset, .unset, .unset, .unset] [(.int p3)]) _
            refine XS.iload X76.here hx rfl (hb hby at_203) rfl ?_
            refine st78 _ ?_
            refine XS.istore X78.here hx rfl (hb hby at_208) rfl (l' := #[iv p0, iv p1, iv p2, iv p3, iv p4, iv (own_n nn), rv b1, rv b3, iv (((own_n nn) - (1 : Int32))), iv 1, iv (own_n kq13), iv (own_n kq14), iv 0, iv 0, iv (own_n kq24), iv (own_n kq25), iv 1, iv 1, iv (own_n kq78), .unset, .unset, .unset, .unset, .unset, .unset, .unset]) rfl ?_
            refine XS.iloadN X78.here hx rfl (hb hby at_210) rfl ?_
            refine XS.iload X78.here hx rfl (hb hby at_211) rfl ?_
            refine st79 _ ?_
            refine XS.istore X79.here hx rfl (hb hby at_216) rfl (l' := #[iv p0, iv p1, iv p2, iv p3, iv p4, iv (own_n nn), rv b1, rv b3, iv (((own_n nn) - (1 : Int32))), iv 1, iv (own_n kq13), iv (own_n kq14), iv 0, iv 0, iv (own_n kq24), iv (own_n kq25), iv 1, iv 1, iv (own_n kq78), iv (own_n kq79), .unset, .unset, .unset, .unset, .unset, .unset]) rfl ?_
            refine XS.aload X79.here hx rfl (hb hby at_218) rfl rfl ?_
            show oS p e below T79 (mkF m 220 #[iv p0, iv p1, iv p2, iv p3, iv p4, iv (own_n nn), rv b1, rv b3, iv (((own_n nn) - (1 : Int32))), iv 1, iv (own_n kq13), iv (own_n kq14), iv 0, iv 0, iv (own_n kq24), iv (own_n kq25), iv 1, iv 1, iv (own_n kq78), iv (own_n kq79), .unset, .unset, .unset, .unset, .unset, .unset] [(.ref b1)]) _
            refine XS.iload X79.here hx rfl (hb hby at_220) rfl ?_
            refine XS.iload X79.here hx rfl (hb hby at_222) rfl ?_
            refine st82 _ ?_
            refine XS.istore X82.here hx rfl (hb hby at_227) rfl (l' := #[iv p0, iv p1, iv p2, iv p3, iv p4, iv (own_n nn), rv b1, rv b3, iv (((own_n nn) - (1 : Int32))), iv 1, iv (own_n kq13), iv (own_n kq14), iv 0, iv 0, iv (own_n kq24), iv (own_n kq25), iv 1, iv 1, iv (own_n kq78), iv (own_n kq79), iv 1, .unset, .unset, .unset, .unset, .unset]) rfl ?_
            refine XS.aload X82.here hx rfl (hb hby at_229) rfl rfl ?_
            refine XS.iload X82.here hx rfl (hb hby at_231) rfl ?_
            refine XS.iload X82.here hx rfl (hb hby at_233) rfl ?_
            refine st102 _ ?_
            show oS p e below T102 (mkF m 238 #[iv p0, iv p1, iv p2, iv p3, iv p4, iv (own_n nn), rv b1, rv b3, iv (((own_n nn) - (1 : Int32))), iv 1, iv (own_n kq13), iv (own_n kq14), iv 0, iv 0, iv (own_n kq24), iv (own_n kq25), iv 1, iv 1, iv (own_n kq78), iv (own_n kq79), iv 1, .unset, .unset, .unset, .unset, .unset] [(.int 1)]) _
            refine XS.istore X102.here hx rfl (hb hby at_238) rfl (l' := #[iv p0, iv p1, iv p2, iv p3, iv p4, iv (own_n nn), rv b1, rv b3, iv (((own_n nn) - (1 : Int32))), iv 1, iv (own_n kq13), iv (own_n kq14), iv 0, iv 0, iv (own_n kq24), iv (own_n kq25), iv 1, iv 1, iv (own_n kq78), iv (own_n kq79), iv 1, iv 1, .unset, .unset, .unset, .unset]) rfl ?_
            refine XS.iload X102.here hx rfl (hb hby at_240) rfl ?_
            refine XS.ifNo X102.here hx rfl (hb hby at_242) rfl (XT.i0_eq_f (by decide)) ?_
            refine XS.iload X102.here hx rfl (hb hby at_245) rfl ?_
            refine XT.iconstV X102.here hx rfl (1 : Int32) (hb hby at_247) (by decide) ?_
            refine XS.isub X102.here hx rfl (hb hby at_248) rfl ?_
            refine XS.istore X102.here hx rfl (hb hby at_249) rfl (l' := #[iv p0, iv p1, iv p2, iv p3, iv p4, iv (own_n nn), rv b1, rv b3, iv ((((own_n nn) - (1 : Int32)) - (1 : Int32))), iv 1, iv (own_n kq13), iv (own_n kq14), iv 0, iv 0, iv (own_n kq24), iv (own_n kq25), iv 1, iv 1, iv (own_n kq78), iv (own_n kq79), iv 1, iv 1, .unset, .unset, .unset, .unset]) rfl ?_
            refine XS.iload X102.here hx rfl (hb hby at_251) rfl ?_
            show oS p e below T102 (mkF m 253 #[iv p0, iv p1, iv p2, iv p3, iv p4, iv (own_n nn), rv b1, rv b3, iv ((((own_n nn) - (1 : Int32)) - (1 : Int32))), iv 1, iv (own_n kq13), iv (own_n kq14), iv 0, iv 0, iv (own_n kq24), iv (own_n kq25), iv 1, iv 1, iv (own_n kq78), iv (own_n kq79), iv 1, iv 1, .unset, .unset, .unset, .unset] [(.int 1)]) _
            refine XS.ifNo X102.here hx rfl (hb hby at_253) rfl (XT.i0_eq_f (by decide)) ?_
            refine XS.iload X102.here hx rfl (hb hby at_256) rfl ?_
            refine XS.iload X102.here hx rfl (hb hby at_258) rfl ?_
            refine XS.icmpNo X102.here hx rfl (hb hby at_260) rfl (XT.ii_ne_f (by decide)) ?_
            refine XS.aload X102.here hx rfl (hb hby at_263) rfl rfl ?_
            refine st104 _ ?_
            refine XS.iload X104.here hx rfl (hb hby at_268) rfl ?_
            refine XS.icmpNo X104.here hx rfl (hb hby at_270) rfl (XT.ii_ne_f rfl) ?_
            show oS p e below T104 (mkF m 273 #[iv p0, iv p1, iv p2, iv p3, iv p4, iv (own_n nn), rv b1, rv b3, iv ((((own_n nn) - (1 : Int32)) - (1 : Int32))), iv 1, iv (own_n kq13), iv (own_n kq14), iv 0, iv 0, iv (own_n kq24), iv (own_n kq25), iv 1, iv 1, iv (own_n kq78), iv (own_n kq79), iv 1, iv 1, .unset, .unset, .unset, .unset] []) _
            refine XT.iconstV X104.here hx rfl (1 : Int32) (hb hby at_273) (by decide) ?_
            refine XS.goto X104.here hx rfl (pc0 := 274) (pc' := 278) rfl (hb hby at_274) (by decide) (by decide) ?_
            refine XS.istore X104.here hx rfl (hb hby at_278) rfl (l' := #[iv p0, iv p1, iv p2, iv p3, iv p4, iv (own_n nn), rv b1, rv b3, iv ((((own_n nn) - (1 : Int32)) - (1 : Int32))), iv 1, iv (own_n kq13), iv (own_n kq14), iv 0, iv 0, iv (own_n kq24), iv (own_n kq25), iv 1, iv 1, iv (own_n kq78), iv (own_n kq79), iv 1, iv 1, .unset, .unset, .unset, .unset]) rfl ?_
            refine XS.iload X104.here hx rfl (hb hby at_280) rfl ?_
            refine XS.iload X104.here hx rfl (hb hby at_282) rfl ?_
            refine st106 _ ?_
            refine XS.istore X106.here hx rfl (hb hby at_287) rfl (l' := #[iv p0, iv p1, iv p2, iv p3, iv p4, iv (own_n nn), rv b1, rv b3, iv ((((own_n nn) - (1 : Int32)) - (1 : Int32))), iv 1, iv (own_n kq13), iv (own_n kq14), iv 0, iv 0, iv (own_n kq24), iv (own_n kq25), iv 1, iv 1, iv (own_n kq78), iv (own_n kq79), iv 1, iv 1, iv (own_n kq106), .unset, .unset, .unset]) rfl ?_
            refine XS.iload X106.here hx rfl (hb hby at_289) rfl ?_
            show oS p e below T106 (mkF m 291 #[iv p0, iv p1, iv p2, iv p3, iv p4, iv (own_n nn), rv b1, rv b3, iv ((((own_n nn) - (1 : Int32)) - (1 : Int32))), iv 1, iv (own_n kq13), iv (own_n kq14), iv 0, iv 0, iv (own_n kq24), iv (own_n kq25), iv 1, iv 1, iv (own_n kq78), iv (own_n kq79), iv 1, iv 1, iv (own_n kq106), .unset, .unset, .unset] [(.int p4)]) _
            refine XS.iload X106.here hx rfl (hb hby at_291) rfl ?_
            refine st107 _ ?_
            refine XS.istore X107.here hx rfl (hb hby at_296) rfl (l' := #[iv p0, iv p1, iv p2, iv p3, iv p4, iv (own_n nn), rv b1, rv b3, iv ((((own_n nn) - (1 : Int32)) - (1 : Int32))), iv 1, iv (own_n kq13), iv (own_n kq14), iv 0, iv 0, iv (own_n kq24), iv (own_n kq25), iv 1, iv 1, iv (own_n kq78), iv (own_n kq79), iv 1, iv 1, iv (own_n kq106), iv (own_n kq107), .unset, .unset]) rfl ?_
            refine XS.aload X107.here hx rfl (hb hby at_298) rfl rfl ?_
            refine XS.iload X107.here hx rfl (hb hby at_300) rfl ?_
            refine XS.iload X107.here hx rfl (hb hby at_302) rfl ?_
            refine st110 _ ?_
            refine XS.istore X110.here hx rfl (hb hby at_307) rfl (l' := #[iv p0, iv p1, iv p2, iv p3, iv p4, iv (own_n nn), rv b1, rv b3, iv ((((own_n nn) - (1 : Int32)) - (1 : Int32))), iv 1, iv (own_n kq13), iv (own_n kq14), iv 0, iv 0, iv (own_n kq24), iv (own_n kq25), iv 1, iv 1, iv (own_n kq78), iv (own_n kq79), iv 1, iv 1, iv (own_n kq106), iv (own_n kq107), iv 1, .unset]) rfl ?_
            show oS p e below T110 (mkF m 309 #[iv p0, iv p1, iv p2, iv p3, iv p4, iv (own_n nn), rv b1, rv b3, iv ((((own_n nn) - (1 : Int32)) - (1 : Int32))), iv 1, iv (own_n kq13), iv (own_n kq14), iv 0, iv 0, iv (own_n kq24), iv (own_n kq25), iv 1, iv 1, iv (own_n kq78), iv (own_n kq79), iv 1, iv 1, iv (own_n kq106), iv (own_n kq107), iv 1, .unset] []) _
            refine XS.aload X110.here hx rfl (hb hby at_309) rfl rfl ?_
            refine XS.iload X110.here hx rfl (hb hby at_311) rfl ?_
            refine XS.iload X110.here hx rfl (hb hby at_313) rfl ?_
            refine st117 _ ?_
            refine XS.istore X117.here hx rfl (hb hby at_318) rfl (l' := #[iv p0, iv p1, iv p2, iv p3, iv p4, iv (own_n nn), rv b1, rv b3, iv ((((own_n nn) - (1 : Int32)) - (1 : Int32))), iv 1, iv (own_n kq13), iv (own_n kq14), iv 0, iv 0, iv (own_n kq24), iv (own_n kq25), iv 1, iv 1, iv (own_n kq78), iv (own_n kq79), iv 1, iv 1, iv (own_n kq106), iv (own_n kq107), iv 1, iv 1]) rfl ?_
            refine XS.iload X117.here hx rfl (hb hby at_320) rfl ?_
            refine XS.ifNo X117.here hx rfl (hb hby at_322) rfl (XT.i0_eq_f (by decide)) ?_
            refine XS.iload X117.here hx rfl (hb hby at_325) rfl ?_
            show oS p e below T117 (mkF m 327 #[iv p0, iv p1, iv p2, iv p3, iv p4, iv (own_n nn), rv b1, rv b3, iv ((((own_n nn) - (1 : Int32)) - (1 : Int32))), iv 1, iv (own_n kq13), iv (own_n kq14), iv 0, iv 0, iv (own_n kq24), iv (own_n kq25), iv 1, iv 1, iv (own_n kq78), iv (own_n kq79), iv 1, iv 1, iv (own_n kq106), iv (own_n kq107), iv 1, iv 1] [(.int (((own_n nn) - (1 : Int32)) - (1 : Int32)))]) _
            refine XT.iconstV X117.here hx rfl (1 : Int32) (hb hby at_327) (by decide) ?_
            refine XS.isub X117.here hx rfl (hb hby at_328) rfl ?_
            refine XS.istore X117.here hx rfl (hb hby at_329) rfl (l' := #[iv p0, iv p1, iv p2, iv p3, iv p4, iv (own_n nn), rv b1, rv b3, iv (((((own_n nn) - (1 : Int32)) - (1 : Int32)) - (1 : Int32))), iv 1, iv (own_n kq13), iv (own_n kq14), iv 0, iv 0, iv (own_n kq24), iv (own_n kq25), iv 1, iv 1, iv (own_n kq78), iv (own_n kq79), iv 1, iv 1, iv (own_n kq106), iv (own_n kq107), iv 1, iv 1]) rfl ?_
            refine XS.iload X117.here hx rfl (hb hby at_331) rfl ?_
            refine XS.ifNo X117.here hx rfl (hb hby at_333) rfl (XT.i0_eq_f (by decide)) ?_
            refine XS.iload X117.here hx rfl (hb hby at_336) rfl ?_
            refine XS.iload X117.here hx rfl (hb hby at_338) rfl ?_
            refine XS.icmpNo X117.here hx rfl (hb hby at_340) rfl (XT.ii_ne_f (by decide)) ?_
            show oS p e below T117 (mkF m 343 #[iv p0, iv p1, iv p2, iv p3, iv p4, iv (own_n nn), rv b1, rv b3, iv (((((own_n nn) - (1 : Int32)) - (1 : Int32)) - (1 : Int32))), iv 1, iv (own_n kq13), iv (own_n kq14), iv 0, iv 0, iv (own_n kq24), iv (own_n kq25), iv 1, iv 1, iv (own_n kq78), iv (own_n kq79), iv 1, iv 1, iv (own_n kq106), iv (own_n kq107), iv 1, iv 1] []) _
            refine XS.aload X117.here hx rfl (hb hby at_343) rfl rfl ?_
            refine st119 _ ?_
            refine XS.iload X119.here hx rfl (hb hby at_348) rfl ?_
            refine XS.icmpNo X119.here hx rfl (hb hby at_350) rfl (XT.ii_ne_f rfl) ?_
            refine XT.iconstV X119.here hx rfl (1 : Int32) (hb hby at_353) (by decide) ?_
            refine XS.goto X119.here hx rfl (pc0 := 354) (pc' := 358) rfl (hb hby at_354) (by decide) (by decide) ?_
            refine XS.istore X119.here hx rfl (hb hby at_358) rfl (l' := #[iv p0, iv p1, iv p2, iv p3, iv p4, iv (own_n nn), rv b1, rv b3, iv (((((own_n nn) - (1 : Int32)) - (1 : Int32)) - (1 : Int32))), iv 1, iv (own_n kq13), iv (own_n kq14), iv 0, iv 0, iv (own_n kq24), iv (own_n kq25), iv 1, iv 1, iv (own_n kq78), iv (own_n kq79), iv 1, iv 1, iv (own_n kq106), iv (own_n kq107), iv 1, iv 1]) rfl ?_
            refine XS.iload X119.here hx rfl (hb hby at_360) rfl ?_
            show oS p e below T119 (mkF m 362 #[iv p0, iv p1, iv p2, iv p3, iv p4, iv (own_n nn), rv b1, rv b3, iv (((((own_n nn) - (1 : Int32)) - (1 : Int32)) - (1 : Int32))), iv 1, iv (own_n kq13), iv (own_n kq14), iv 0, iv 0, iv (own_n kq24), iv (own_n kq25), iv 1, iv 1, iv (own_n kq78), iv (own_n kq79), iv 1, iv 1, iv (own_n kq106), iv (own_n kq107), iv 1, iv 1] [(.int 1)]) _
            exact kz)
          obtain ⟨fs, hr, hrun, hended, hW, hsame⟩ := X119.leave (v := some (.int 1)) (fun h => by rw [Bd.returns] at h; cases h)
          refine ⟨_, _, pre0 _ (S121 _ ?_), hrun, hended, _, _, rfl, ?_, ⟨_, rfl⟩, hW, hsame.mono (by decide) (by decide)⟩
          · exact retN X119 hx (t := .boolean) Bd.returns (by simp) (hb hby at_362) hr
          · show Qrm0s Z p0 p1 p2 p3 p4 nn h0 n0 _ T119.heap _
            rw [e119]
            exact ⟨rfl, N119⟩
  · have N19 := Fr.app N14 N19q
    have e19 : T19.heap = T19.heap := rfl
    have Zk19 : n0 ≤ T19.heap.size := Nat.le_trans Z12 K19.1
    have Kk19 : Keep h0 T19.heap [] := K12.trans K19 (allS (Or.inr sz_b1) (allS (Or.inr sz_b2') all0))
    have f122 := (V12.keep K19 (ninS (Ne.symm ne_b1_b3) (ninS (Ne.symm ne_b2'_b3) nin0)))
    obtain ⟨_, T123, Lc123, X123, hQ123, st123⟩ := own_callS (W := 0) (y := mN5) X19 hx hZ hown (hw _ (own_w 30 rfl)) (hw _ (own_w 31 rfl)) (hw _ (own_w 16 rfl)) (hw _ (own_w 32 rfl)) (by decide) (rmRef1 l Z av0 hw [] b3 k3 own_n kq13 kq14 T19.heap n0 Zk19 f122 (Nat.lt_of_lt_of_le lq13 hnn) (Nat.lt_of_lt_of_le lq14 hnn) ge_b3 (fun q => rs19 ((RL2 _ lq13 _ lq14).mpr q))) (by decide) (by decide) (g := (mkF m 79 #[iv p0, iv p1, iv p2, iv p3, iv p4, iv (own_n nn), rv b1, rv b3, iv (own_n nn), iv 1, iv (own_n kq13), iv (own_n kq14), iv 1, .unset, .unset, .unset, .unset, .unset, .unset, .unset, .unset, .unset, .unset, .unset, .unset, .unset] [(.int (own_n kq14)), (.int (own_n kq13)), (.ref b3)])) rfl (by rw [hml]; rfl) (argsL := [(.ref b3), (.int (own_n kq13)), (.int (own_n kq14))]) (rest := []) (lenOf pd__III_Z rfl) rfl (hb hby at_79) rfl e19 (by decide : 3 + 0 ≤ _) (by decide : 10 + 0 ≤ _)
    obtain ⟨rfl, N123q, K123, B123⟩ := hQ123
    have N123 := Fr.app N19 N123q
    have e123 : T123.heap = T123.heap := rfl
    have Zk123 : n0 ≤ T123.heap.size := Nat.le_trans Zk19 K123.1
    have Kk123 : Keep h0 T123.heap [] := Kk19.trans K123 (allS (Or.inr sz_b3) all0)
    have RL123 := own_RL RL2 lq13 lq14
    have f124 := (C19.keep K123 (ninS ne_b1_b3 nin0))
    have f126 := ((f15.keep K19).keep K123)
    obtain ⟨_, T125, Lc125, X125, hQ125, st125⟩ := own_virtual (W := 0) (y := mN0) (z := mN0) X123 hx hZ hown (hw _ (own_w 33 rfl)) (hw _ (own_w 34 rfl)) (notFace_of_selects (args := #[]) (mvT hZ (hw _ (own_w 36 rfl)))) (hw _ (own_w 36 rfl)) (hw _ (own_w 35 rfl)) (hw _ (own_w 37 rfl)) (hw _ (own_w 2 rfl)) (by decide) (rmCount l Z av0 hw [] b1 ((own_n nn) - (1 : Int32)) T123.heap n0 Zk123 f124) (by decide) (by decide) f126 (g := (mkF m 109 #[iv p0, iv p1, iv p2, iv p3, iv p4, iv (own_n nn), rv b1, rv b3, iv (((own_n nn) - (1 : Int32))), iv 1, iv (own_n kq13), iv (own_n kq14), iv 1, iv 1, .unset, .unset, .unset, .unset, .unset, .unset, .unset, .unset, .unset, .unset, .unset, .unset] [(.ref b1)])) rfl (by rw [hml]; rfl) (argsL := []) (rest := []) (lenOf pd__I rfl) rfl (hb hby at_109) rfl e123 (by decide : 3 + 0 ≤ _) (by decide : 10 + 0 ≤ _)
    obtain ⟨rfl, N125q, hh125⟩ := hQ125
    have N125 := Fr.app N123 N125q
    have e125 : T125.heap = T123.heap := hh125
    obtain ⟨_, T127, Lc127, X127, hQ127, st127⟩ := own_callS (W := 0) (y := mN1) X125 hx hZ hown (hw _ (own_w 14 rfl)) (hw _ (own_w 15 rfl)) (hw _ (own_w 16 rfl)) (hw _ (own_w 17 rfl)) (by decide) (rmFirst l Z av0 hw [] p2 nn T123.heap n0 Zk123 hone hnn) (by decide) (by decide) (g := (mkF m 127 #[iv p0, iv p1, iv p2, iv p3, iv p4, iv (own_n nn), rv b1, rv b3, iv (((own_n nn) - (1 : Int32))), iv 1, iv (own_n kq13), iv (own_n kq14), iv 1, iv 1, .unset, .unset, .unset, .unset, .unset, .unset, .unset, .unset, .unset, .unset, .unset, .unset] [(.int (own_n nn)), (.int p2)])) rfl (by rw [hml]; rfl) (argsL := [(.int p2), (.int (own_n nn))]) (rest := []) (lenOf pd__II_I rfl) rfl (hb hby at_127) rfl e125 (by decide : 3 + 0 ≤ _) (by decide : 10 + 0 ≤ _)
    obtain ⟨kq127, lq127, rfl, N127q, hh127⟩ := hQ127
    have N127 := Fr.app N125 N127q
    have e127 : T127.heap = T123.heap := hh127
    obtain ⟨_, T128, Lc128, X128, hQ128, st128⟩ := own_callS (W := 0) (y := mN2) X127 hx hZ hown (hw _ (own_w 18 rfl)) (hw _ (own_w 19 rfl)) (hw _ (own_w 16 rfl)) (hw _ (own_w 20 rfl)) (by decide) (rmSecond l Z av0 hw [] p2 nn T123.heap n0 Zk123 hone hnn) (by decide) (by decide) (g := (mkF m 135 #[iv p0, iv p1, iv p2, iv p3, iv p4, iv (own_n nn), rv b1, rv b3, iv (((own_n nn) - (1 : Int32))), iv 1, iv (own_n kq13), iv (own_n kq14), iv 1, iv 1, iv (own_n kq127), .unset, .unset, .unset, .unset, .unset, .unset, .unset, .unset, .unset, .unset, .unset] [(.int (own_n nn)), (.int p2)])) rfl (by rw [hml]; rfl) (argsL := [(.int p2), (.int (own_n nn))]) (rest := []) (lenOf pd__II_I rfl) rfl (hb hby at_135) rfl e127 (by decide : 3 + 0 ≤ _) (by decide : 10 + 0 ≤ _)
    obtain ⟨kq128, lq128, rfl, N128q, hh128⟩ := hQ128
    have N128 := Fr.app N127 N128q
    have e128 : T128.heap = T123.heap := hh128
    have f129 := (P19.keep K123 (ninS ne_b1_b3 nin0))
    have f130 := (A19.keep K123 (ninS ne_b2'_b3 nin0))
    obtain ⟨_, T131, Lc131, X131, hQ131, st131⟩ := own_virtual (W := 0) (y := mN4) (z := mN4) X128 hx hZ hown (hw _ (own_w 21 rfl)) (hw _ (own_w 22 rfl)) (notFace_of_selects (args := #[]) (mvT hZ (hw _ (own_w 24 rfl)))) (hw _ (own_w 24 rfl)) (hw _ (own_w 23 rfl)) (hw _ (own_w 25 rfl)) (hw _ (own_w 2 rfl)) (by decide) (rmJoin l Z av0 hw [] b1 b2' k2' nn f19' (own_R (fun i => i) ((fun i => i) kq13) ((fun i => i) kq14)) d19' kq127 kq128 ((own_n nn) - (1 : Int32)) T123.heap n0 Zk123 hnn f126 f129 f124 f130 I19 lq127 lq128 ge_b1 ge_b2' ne_b1_b2') (by decide) (by decide) f126 (g := (mkF m 146 #[iv p0, iv p1, iv p2, iv p3, iv p4, iv (own_n nn), rv b1, rv b3, iv (((own_n nn) - (1 : Int32))), iv 1, iv (own_n kq13), iv (own_n kq14), iv 1, iv 1, iv (own_n kq127), iv (own_n kq128), .unset, .unset, .unset, .unset, .unset, .unset, .unset, .unset, .unset, .unset] [(.int (own_n kq128)), (.int (own_n kq127)), (.ref b1)])) rfl (by rw [hml]; rfl) (argsL := [(.int (own_n kq127)), (.int (own_n kq128))]) (rest := []) (lenOf pd__II_Z rfl) rfl (hb hby at_146) rfl e128 (by decide : 3 + 0 ≤ _) (by decide : 10 + 0 ≤ _)
    rcases hQ131 with ⟨rfl, N131q, rs131, K131, P131, C131, f131', A131, I131⟩ | ⟨rfl, N131q, rs131, K131, P131, C131, f131', d131', A131, I131⟩
    · have N131 := Fr.app N128 N131q
      have e131 : T131.heap = T131.heap := rfl
      have Zk131 : n0 ≤ T131.heap.size := Nat.le_trans Zk123 K131.1
      have Kk131 : Keep h0 T131.heap [] := Kk123.trans K131 (allS (Or.inr sz_b1) (allS (Or.inr sz_b2') all0))
      have f132 := (B123.keep K131 (ninS (Ne.symm ne_b1_b3) (ninS (Ne.symm ne_b2'_b3) nin0)))
      obtain ⟨_, T133, Lc133, X133, hQ133, st133⟩ := own_callS (W := 0) (y := mN5) X131 hx hZ hown (hw _ (own_w 30 rfl)) (hw _ (own_w 31 rfl)) (hw _ (own_w 16 rfl)) (hw _ (own_w 32 rfl)) (by decide) (rmRef0 l Z av0 hw [] b3 k3 (own_L own_n (own_n kq13) (own_n kq14)) kq127 kq128 T131.heap n0 Zk131 f132 (Nat.lt_of_lt_of_le lq127 hnn) (Nat.lt_of_lt_of_le lq128 hnn) ge_b3 ((RL123 _ lq127 _ lq128).mp rs131)) (by decide) (by decide) (g := (mkF m 157 #[iv p0, iv p1, iv p2, iv p3, iv p4, iv (own_n nn), rv b1, rv b3, iv (((own_n nn) - (1 : Int32))), iv 1, iv (own_n kq13), iv (own_n kq14), iv 1, iv 1, iv (own_n kq127), iv (own_n kq128), iv 0, .unset, .unset, .unset, .unset, .unset, .unset, .unset, .unset, .unset] [(.int (own_n kq128)), (.int (own_n kq127)), (.ref b3)])) rfl (by rw [hml]; rfl) (argsL := [(.ref b3), (.int (own_n kq127)), (.int (own_n kq128))]) (rest := []) (lenOf pd__III_Z rfl) rfl (hb hby at_157) rfl e131 (by decide : 3 + 0 ≤ _) (by decide : 10 + 0 ≤ _)
      obtain ⟨rfl, N133q, hh133⟩ := hQ133
      have N133 := Fr.app N131 N133q
      have e133 : T133.heap = T131.heap := hh133
      have f135 := (f126.keep K131)
      obtain ⟨_, T134, Lc134, X134, hQ134, st134⟩ := own_virtual (W := 0) (y := mN0) (z := mN0) X133 hx hZ hown (hw _ (own_w 33 rfl)) (hw _ (own_w 34 rfl)) (notFace_of_selects (args := #[]) (mvT hZ (hw _ (own_w 36 rfl)))) (hw _ (own_w 36 rfl)) (hw _ (own_w 35 rfl)) (hw _ (own_w 37 rfl)) (hw _ (own_w 2 rfl)) (by decide) (rmCount l Z av0 hw [] b1 ((own_n nn) - (1 : Int32)) T131.heap n0 Zk131 C131) (by decide) (by decide) f135 (g := (mkF m 187 #[iv p0, iv p1, iv p2, iv p3, iv p4, iv (own_n nn), rv b1, rv b3, iv (((own_n nn) - (1 : Int32))), iv 1, iv (own_n kq13), iv (own_n kq14), iv 1, iv 1, iv (own_n kq127), iv (own_n kq128), iv 0, iv 0, .unset, .unset, .unset, .unset, .unset, .unset, .unset, .unset] [(.ref b1)])) rfl (by rw [hml]; rfl) (argsL := []) (rest := []) (lenOf pd__I rfl) rfl (hb hby at_187) rfl e133 (by decide : 3 + 0 ≤ _) (by decide : 10 + 0 ≤ _)
      obtain ⟨rfl, N134q, hh134⟩ := hQ134
      have N134 := Fr.app N133 N134q
      have e134 : T134.heap = T131.heap := hh134
      obtain ⟨_, T136, Lc136, X136, hQ136, st136⟩ := own_callS (W := 0) (y := mN1) X134 hx hZ hown (hw _ (own_w 14 rfl)) (hw _ (own_w 15 rfl)) (hw _ (own_w 16 rfl)) (hw _ (own_w 17 rfl)) (by decide) (rmFirst l Z av0 hw [] p3 nn T131.heap n0 Zk131 hone hnn) (by decide) (by decide) (g := (mkF m 205 #[iv p0, iv p1, iv p2, iv p3, iv p4, iv (own_n nn), rv b1, rv b3, iv (((own_n nn) - (1 : Int32))), iv 1, iv (own_n kq13), iv (own_n kq14), iv 1, iv 1, iv (own_n kq127), iv (own_n kq128), iv 0, iv 0, .unset, .unset, .unset, .unset, .unset, .unset, .unset, .unset] [(.int (own_n nn)), (.int p3)])) rfl (by rw [hml]; rfl) (argsL := [(.int p3), (.int (own_n nn))]) (rest := []) (lenOf pd__II_I rfl) rfl (hb hby at_205) rfl e134 (by decide : 3 + 0 ≤ _) (by decide : 10 + 0 ≤ _)
      obtain ⟨kq136, lq136, rfl, N136q, hh136⟩ := hQ136
      have N136 := Fr.app N134 N136q
      have e136 : T136.heap = T131.heap := hh136
      obtain ⟨_, T137, Lc137, X137, hQ137, st137⟩ := own_callS (W := 0) (y := mN2) X136 hx hZ hown (hw _ (own_w 18 rfl)) (hw _ (own_w 19 rfl)) (hw _ (own_w 16 rfl)) (hw _ (own_w 20 rfl)) (by decide) (rmSecond l Z av0 hw [] p3 nn T131.heap n0 Zk131 hone hnn) (by decide) (by decide) (g := (mkF m 213 #[iv p0, iv p1, iv p2, iv p3, iv p4, iv (own_n nn), rv b1, rv b3, iv (((own_n nn) - (1 : Int32))), iv 1, iv (own_n kq13), iv (own_n kq14), iv 1, iv 1, iv (own_n kq127), iv (own_n kq128), iv 0, iv 0, iv (own_n kq136), .unset, .unset, .unset, .unset, .unset, .unset, .unset] [(.int (own_n nn)), (.int p3)])) rfl (by rw [hml]; rfl) (argsL := [(.int p3), (.int (own_n nn))]) (rest := []) (lenOf pd__II_I rfl) rfl (hb hby at_213) rfl e136 (by decide : 3 + 0 ≤ _) (by decide : 10 + 0 ≤ _)
      obtain ⟨kq137, lq137, rfl, N137q, hh137⟩ := hQ137
      have N137 := Fr.app N136 N137q
      have e137 : T137.heap = T131.heap := hh137
      obtain ⟨_, T138, Lc138, X138, hQ138, st138⟩ := own_virtual (W := 0) (y := mN4) (z := mN4) X137 hx hZ hown (hw _ (own_w 21 rfl)) (hw _ (own_w 22 rfl)) (notFace_of_selects (args := #[]) (mvT hZ (hw _ (own_w 24 rfl)))) (hw _ (own_w 24 rfl)) (hw _ (own_w 23 rfl)) (hw _ (own_w 25 rfl)) (hw _ (own_w 2 rfl)) (by decide) (rmJoin l Z av0 hw [] b1 b2' k2' nn f131' (own_R (fun i => i) ((fun i => i) kq13) ((fun i => i) kq14)) d19' kq136 kq137 ((own_n nn) - (1 : Int32)) T131.heap n0 Zk131 hnn f135 P131 C131 A131 I131 lq136 lq137 ge_b1 ge_b2' ne_b1_b2') (by decide) (by decide) f135 (g := (mkF m 224 #[iv p0, iv p1, iv p2, iv p3, iv p4, iv (own_n nn), rv b1, rv b3, iv (((own_n nn) - (1 : Int32))), iv 1, iv (own_n kq13), iv (own_n kq14), iv 1, iv 1, iv (own_n kq127), iv (own_n kq128), iv 0, iv 0, iv (own_n kq136), iv (own_n kq137), .unset, .unset, .unset, .unset, .unset, .unset] [(.int (own_n kq137)), (.int (own_n kq136)), (.ref b1)])) rfl (by rw [hml]; rfl) (argsL := [(.int (own_n kq136)), (.int (own_n kq137))]) (rest := []) (lenOf pd__II_Z rfl) rfl (hb hby at_224) rfl e137 (by decide : 3 + 0 ≤ _) (by decide : 10 + 0 ≤ _)
      rcases hQ138 with ⟨rfl, N138q, rs138, K138, P138, C138, f138', A138, I138⟩ | ⟨rfl, N138q, rs138, K138, P138, C138, f138', d138', A138, I138⟩
      · have N138 := Fr.app N137 N138q
        have e138 : T138.heap = T138.heap := rfl
        have Zk138 : n0 ≤ T138.heap.size := Nat.le_trans Zk131 K138.1
        have Kk138 : Keep h0 T138.heap [] := Kk131.trans K138 (allS (Or.inr sz_b1) (allS (Or.inr sz_b2') all0))
        have f139 := (f132.keep K138 (ninS (Ne.symm ne_b1_b3) (ninS (Ne.symm ne_b2'_b3) nin0)))
        obtain ⟨_, T140, Lc140, X140, hQ140, st140⟩ := own_callS (W := 0) (y := mN5) X138 hx hZ hown (hw _ (own_w 30 rfl)) (hw _ (own_w 31 rfl)) (hw _ (own_w 16 rfl)) (hw _ (own_w 32 rfl)) (by decide) (rmRef0 l Z av0 hw [] b3 k3 (own_L own_n (own_n kq13) (own_n kq14)) kq136 kq137 T138.heap n0 Zk138 f139 (Nat.lt_of_lt_of_le lq136 hnn) (Nat.lt_of_lt_of_le lq137 hnn) ge_b3 ((RL123 _ lq136 _ lq137).mp rs138)) (by decide) (by decide) (g := (mkF m 235 #[iv p0, iv p1, iv p2, iv p3, iv p4, iv (own_n nn), rv b1, rv b3, iv (((own_n nn) - (1 : Int32))), iv 1, iv (own_n kq13), iv (own_n kq14), iv 1, iv 1, iv (own_n kq127), iv (own_n kq128), iv 0, iv 0, iv (own_n kq136), iv (own_n kq137), iv 0, .unset, .unset, .unset, .unset, .unset] [(.int (own_n kq137)), (.int (own_n kq136)), (.ref b3)])) rfl (by rw [hml]; rfl) (argsL := [(.ref b3), (.int (own_n kq136)), (.int (own_n kq137))]) (rest := []) (lenOf pd__III_Z rfl) rfl (hb hby at_235) rfl e138 (by decide : 3 + 0 ≤ _) (by decide : 10 + 0 ≤ _)
        obtain ⟨rfl, N140q, hh140⟩ := hQ140
        have N140 := Fr.app N138 N140q
        have e140 : T140.heap = T138.heap := hh140
        have f142 := (f135.keep K138)
        obtain ⟨_, T141, Lc141, X141, hQ141, st141⟩ := own_virtual (W := 0) (y := mN0) (z := mN0) X140 hx hZ hown (hw _ (own_w 33 rfl)) (hw _ (own_w 34 rfl)) (notFace_of_selects (args := #[]) (mvT hZ (hw _ (own_w 36 rfl)))) (hw _ (own_w 36 rfl)) (hw _ (own_w 35 rfl)) (hw _ (own_w 37 rfl)) (hw _ (own_w 2 rfl)) (by decide) (rmCount l Z av0 hw [] b1 ((own_n nn) - (1 : Int32)) T138.heap n0 Zk138 C138) (by decide) (by decide) f142 (g := (mkF m 265 #[iv p0, iv p1, iv p2, iv p3, iv p4, iv (own_n nn), rv b1, rv b3, iv (((own_n nn) - (1 : Int32))), iv 1, iv (own_n kq13), iv (own_n kq14), iv 1, iv 1, iv (own_n kq127), iv (own_n kq128), iv 0, iv 0, iv (own_n kq136), iv (own_n kq137), iv 0, iv 0, .unset, .unset, .unset, .unset] [(.ref b1)])) rfl (by rw [hml]; rfl) (argsL := []) (rest := []) (lenOf pd__I rfl) rfl (hb hby at_265) rfl e140 (by decide : 3 + 0 ≤ _) (by decide : 10 + 0 ≤ _)
        obtain ⟨rfl, N141q, hh141⟩ := hQ141
        have N141 := Fr.app N140 N141q
        have e141 : T141.heap = T138.heap := hh141
        obtain ⟨_, T143, Lc143, X143, hQ143, st143⟩ := own_callS (W := 0) (y := mN1) X141 hx hZ hown (hw _ (own_w 14 rfl)) (hw _ (own_w 15 rfl)) (hw _ (own_w 16 rfl)) (hw _ (own_w 17 rfl)) (by decide) (rmFirst l Z av0 hw [] p4 nn T138.heap n0 Zk138 hone hnn) (by decide) (by decide) (g := (mkF m 284 #[iv p0, iv p1, iv p2, iv p3, iv p4, iv (own_n nn), rv b1, rv b3, iv (((own_n nn) - (1 : Int32))), iv 1, iv (own_n kq13), iv (own_n kq14), iv 1, iv 1, iv (own_n kq127), iv (own_n kq128), iv 0, iv 0, iv (own_n kq136), iv (own_n kq137), iv 0, iv 0, .unset, .unset, .unset, .unset] [(.int (own_n nn)), (.int p4)])) rfl (by rw [hml]; rfl) (argsL := [(.int p4), (.int (own_n nn))]) (rest := []) (lenOf pd__II_I rfl) rfl (hb hby at_284) rfl e141 (by decide : 3 + 0 ≤ _) (by decide : 10 + 0 ≤ _)
        obtain ⟨kq143, lq143, rfl, N143q, hh143⟩ := hQ143
        have N143 := Fr.app N141 N143q
        have e143 : T143.heap = T138.heap := hh143
        obtain ⟨_, T144, Lc144, X144, hQ144, st144⟩ := own_callS (W := 0) (y := mN2) X143 hx hZ hown (hw _ (own_w 18 rfl)) (hw _ (own_w 19 rfl)) (hw _ (own_w 16 rfl)) (hw _ (own_w 20 rfl)) (by decide) (rmSecond l Z av0 hw [] p4 nn T138.heap n0 Zk138 hone hnn) (by decide) (by decide) (g := (mkF m 293 #[iv p0, iv p1, iv p2, iv p3, iv p4, iv (own_n nn), rv b1, rv b3, iv (((own_n nn) - (1 : Int32))), iv 1, iv (own_n kq13), iv (own_n kq14), iv 1, iv 1, iv (own_n kq127), iv (own_n kq128), iv 0, iv 0, iv (own_n kq136), iv (own_n kq137), iv 0, iv 0, iv (own_n kq143), .unset, .unset, .unset] [(.int (own_n nn)), (.int p4)])) rfl (by rw [hml]; rfl) (argsL := [(.int p4), (.int (own_n nn))]) (rest := []) (lenOf pd__II_I rfl) rfl (hb hby at_293) rfl e143 (by decide : 3 + 0 ≤ _) (by decide : 10 + 0 ≤ _)
        obtain ⟨kq144, lq144, rfl, N144q, hh144⟩ := hQ144
        have N144 := Fr.app N143 N144q
        have e144 : T144.heap = T138.heap := hh144
        obtain ⟨_, T145, Lc145, X145, hQ145, st145⟩ := own_virtual (W := 0) (y := mN4) (z := mN4) X144 hx hZ hown (hw _ (own_w 21 rfl)) (hw _ (own_w 22 rfl)) (notFace_of_selects (args := #[]) (mvT hZ (hw _ (own_w 24 rfl)))) (hw _ (own_w 24 rfl)) (hw _ (own_w 23 rfl)) (hw _ (own_w 25 rfl)) (hw _ (own_w 2 rfl)) (by decide) (rmJoin l Z av0 hw [] b1 b2' k2' nn f138' (own_R (fun i => i) ((fun i => i) kq13) ((fun i => i) kq14)) d19' kq143 kq144 ((own_n nn) - (1 : Int32)) T138.heap n0 Zk138 hnn f142 P138 C138 A138 I138 lq143 lq144 ge_b1 ge_b2' ne_b1_b2') (by decide) (by decide) f142 (g := (mkF m 304 #[iv p0, iv p1, iv p2, iv p3, iv p4, iv (own_n nn), rv b1, rv b3, iv (((own_n nn) - (1 : Int32))), iv 1, iv (own_n kq13), iv (own_n kq14), iv 1, iv 1, iv (own_n kq127), iv (own_n kq128), iv 0, iv 0, iv (own_n kq136), iv (own_n kq137), iv 0, iv 0, iv (own_n kq143), iv (own_n kq144), .unset, .unset] [(.int (own_n kq144)), (.int (own_n kq143)), (.ref b1)])) rfl (by rw [hml]; rfl) (argsL := [(.int (own_n kq143)), (.int (own_n kq144))]) (rest := []) (lenOf pd__II_Z rfl) rfl (hb hby at_304) rfl e144 (by decide : 3 + 0 ≤ _) (by decide : 10 + 0 ≤ _)
        rcases hQ145 with ⟨rfl, N145q, rs145, K145, P145, C145, f145', A145, I145⟩ | ⟨rfl, N145q, rs145, K145, P145, C145, f145', d145', A145, I145⟩
        · have N145 := Fr.app N144 N145q
          have e145 : T145.heap = T145.heap := rfl
          have Zk145 : n0 ≤ T145.heap.size := Nat.le_trans Zk138 K145.1
          have Kk145 : Keep h0 T145.heap [] := Kk138.trans K145 (allS (Or.inr sz_b1) (allS (Or.inr sz_b2') all0))
          have f146 := (f139.keep K145 (ninS (Ne.symm ne_b1_b3) (ninS (Ne.symm ne_b2'_b3) nin0)))
          obtain ⟨_, T147, Lc147, X147, hQ147, st147⟩ := own_callS (W := 0) (y := mN5) X145 hx hZ hown (hw _ (own_w 30 rfl)) (hw _ (own_w 31 rfl)) (hw _ (own_w 16 rfl)) (hw _ (own_w 32 rfl)) (by decide) (rmRef0 l Z av0 hw [] b3 k3 (own_L own_n (own_n kq13) (own_n kq14)) kq143 kq144 T145.heap n0 Zk145 f146 (Nat.lt_of_lt_of_le lq143 hnn) (Nat.lt_of_lt_of_le lq144 hnn) ge_b3 ((RL123 _ lq143 _ lq144).mp rs145)) (by decide) (by decide) (g := (mkF m 315 #[iv p0, iv p1, iv p2, iv p3, iv p4, iv (own_n nn), rv b1, rv b3, iv (((own_n nn) - (1 : Int32))), iv 1, iv (own_n kq13), iv (own_n kq14), iv 1, iv 1, iv (own_n kq127), iv (own_n kq128), iv 0, iv 0, iv (own_n kq136), iv (own_n kq137), iv 0, iv 0, iv (own_n kq143), iv (own_n kq144), iv 0, .unset] [(.int (own_n kq144)), (.int (own_n kq143)), (.ref b3)])) rfl (by rw [hml]; rfl) (argsL := [(.ref b3), (.int (own_n kq143)), (.int (own_n kq144))]) (rest := []) (lenOf pd__III_Z rfl) rfl (hb hby at_315) rfl e145 (by decide : 3 + 0 ≤ _) (by decide : 10 + 0 ≤ _)
          obtain ⟨rfl, N147q, hh147⟩ := hQ147
          have N147 := Fr.app N145 N147q
          have e147 : T147.heap = T145.heap := hh147
          have f149 := (f142.keep K145)
          obtain ⟨_, T148, Lc148, X148, hQ148, st148⟩ := own_virtual (W := 0) (y := mN0) (z := mN0) X147 hx hZ hown (hw _ (own_w 33 rfl)) (hw _ (own_w 34 rfl)) (notFace_of_selects (args := #[]) (mvT hZ (hw _ (own_w 36 rfl)))) (hw _ (own_w 36 rfl)) (hw _ (own_w 35 rfl)) (hw _ (own_w 37 rfl)) (hw _ (own_w 2 rfl)) (by decide) (rmCount l Z av0 hw [] b1 ((own_n nn) - (1 : Int32)) T145.heap n0 Zk145 C145) (by decide) (by decide) f149 (g := (mkF m 345 #[iv p0, iv p1, iv p2, iv p3, iv p4, iv (own_n nn), rv b1, rv b3, iv (((own_n nn) - (1 : Int32))), iv 1, iv (own_n kq13), iv (own_n kq14), iv 1, iv 1, iv (own_n kq127), iv (own_n kq128), iv 0, iv 0, iv (own_n kq136), iv (own_n kq137), iv 0, iv 0, iv (own_n kq143), iv (own_n kq144), iv 0, iv 0] [(.ref b1)])) rfl (by rw [hml]; rfl) (argsL := []) (rest := []) (lenOf pd__I rfl) rfl (hb hby at_345) rfl e147 (by decide : 3 + 0 ≤ _) (by decide : 10 + 0 ≤ _)
          obtain ⟨rfl, N148q, hh148⟩ := hQ148
          have N148 := Fr.app N147 N148q
          have e148 : T148.heap = T145.heap := hh148
          have S150 : ∀ tz, oS p e below T148 (mkF m 362 #[iv p0, iv p1, iv p2, iv p3, iv p4, iv (own_n nn), rv b1, rv b3, iv (((own_n nn) - (1 : Int32))), iv 1, iv (own_n kq13), iv (own_n kq14), iv 1, iv 1, iv (own_n kq127), iv (own_n kq128), iv 0, iv 0, iv (own_n kq136), iv (own_n kq137), iv 0, iv 0, iv (own_n kq143), iv (own_n kq144), iv 0, iv 0] [(.int 1)]) tz → oS p e below s₁ (mkF m 0 #[iv p0, iv p1, iv p2, iv p3, iv p4, .unset, .unset, .unset, .unset, .unset, .unset, .unset, .unset, .unset, .unset, .unset, .unset, .unset, .unset, .unset, .unset, .unset, .unset, .unset, .unset, .unset] []) tz := fun tz kz => id (by
            show oS p e below s₁ (mkF m 0 #[iv p0, iv p1, iv p2, iv p3, iv p4, .unset, .unset, .unset, .unset, .unset, .unset, .unset, .unset, .unset, .unset, .unset, .unset, .unset, .unset, .unset, .unset, .unset, .unset, .unset, .unset, .unset] []) _
            refine XT.iconstV X0.here hx rfl (1 : Int32) (hb hby at_0) (by decide) ?_
            refine XS.iloadN X0.here hx rfl (hb hby at_1) rfl ?_
            refine XT.iconstV X0.here hx rfl (3 : Int32) (hb hby at_2) (by decide) ?_
            refine XS.iand X0.here hx rfl (hb hby at_3) rfl ?_
            refine XS.iadd X0.here hx rfl (hb hby at_4) rfl ?_
            show oS p e below s₁ (mkF m 5 #[iv p0, iv p1, iv p2, iv p3, iv p4, .unset, .unset, .unset, .unset, .unset, .unset, .unset, .unset, .unset, .unset, .unset, .unset, .unset, .unset, .unset, .unset, .unset, .unset, .unset, .unset, .unset] [(.int ((1 : Int32) + (p0 &&& (3 : Int32))))]) _
            rw [hn]
            show oS p e below s₁ (mkF m 5 #[iv p0, iv p1, iv p2, iv p3, iv p4, .unset, .unset, .unset, .unset, .unset, .unset, .unset, .unset, .unset, .unset, .unset, .unset, .unset, .unset, .unset, .unset, .unset, .unset, .unset, .unset, .unset] [(.int (own_n nn))]) _
            refine XS.istore X0.here hx rfl (hb hby at_5) rfl (l' := #[iv p0, iv p1, iv p2, iv p3, iv p4, iv (own_n nn), .unset, .unset, .unset, .unset, .unset, .unset, .unset, .unset, .unset, .unset, .unset, .unset, .unset, .unset, .unset, .unset, .unset, .unset, .unset, .unset]) rfl ?_
            refine st1 _ ?_
            show oS p e below T1 (mkF m 10 #[iv p0, iv p1, iv p2, iv p3, iv p4, iv (own_n nn), .unset, .unset, .unset, .unset, .unset, .unset, .unset, .unset, .unset, .unset, .unset, .unset, .unset, .unset, .unset, .unset, .unset, .unset, .unset, .unset] [(.ref b1)]) _
            refine XS.dup X1.here hx rfl (hb hby at_10) rfl rfl ?_
            refine XS.iload X1.here hx rfl (hb hby at_11) rfl ?_
            refine st2 _ ?_
            refine XS.astore X2.here hx rfl (hb hby at_16) rfl rfl (l' := #[iv p0, iv p1, iv p2, iv p3, iv p4, iv (own_n nn), rv b1, .unset, .unset, .unset, .unset, .unset, .unset, .unset, .unset, .unset, .unset, .unset, .unset, .unset, .unset, .unset, .unset, .unset, .unset, .unset]) rfl ?_
            refine XT.iconstV X2.here hx rfl (4 : Int32) (hb hby at_18) (by decide) ?_
            refine st3 _ ?_
            refine XS.dup X3.here hx rfl (hb hby at_21) rfl rfl ?_
            refine XT.iconstV X3.here hx rfl (0 : Int32) (hb hby at_22) (by decide) ?_
            show oS p e below T3 (mkF m 23 #[iv p0, iv p1, iv p2, iv p3, iv p4, iv (own_n nn), rv b1, .unset, .unset, .unset, .unset, .unset, .unset, .unset, .unset, .unset, .unset, .unset, .unset, .unset, .unset, .unset, .unset, .unset, .unset, .unset] [(.int 0), (.ref b3), (.ref b3)]) _
            refine XT.iconstV X3.here hx rfl (0 : Int32) (hb hby at_23) (by decide) ?_
            refine st6 _ ?_
            refine XS.dup X6.here hx rfl (hb hby at_25) rfl rfl ?_
            refine XT.iconstV X6.here hx rfl (1 : Int32) (hb hby at_26) (by decide) ?_
            refine XT.iconstV X6.here hx rfl (1 : Int32) (hb hby at_27) (by decide) ?_
            refine st8 _ ?_
            refine XS.dup X8.here hx rfl (hb hby at_29) rfl rfl ?_
            refine XT.iconstV X8.here hx rfl (2 : Int32) (hb hby at_30) (by decide) ?_
            show oS p e below T8 (mkF m 31 #[iv p0, iv p1, iv p2, iv p3, iv p4, iv (own_n nn), rv b1, .unset, .unset, .unset, .unset, .unset, .unset, .unset, .unset, .unset, .unset, .unset, .unset, .unset, .unset, .unset, .unset, .unset, .unset, .unset] [(.int 2), (.ref b3), (.ref b3)]) _
            refine XT.iconstV X8.here hx rfl (2 : Int32) (hb hby at_31) (by decide) ?_
            refine st10 _ ?_
            refine XS.dup X10.here hx rfl (hb hby at_33) rfl rfl ?_
            refine XT.iconstV X10.here hx rfl (3 : Int32) (hb hby at_34) (by decide) ?_
            refine XT.iconstV X10.here hx rfl (3 : Int32) (hb hby at_35) (by decide) ?_
            refine st12 _ ?_
            refine XS.astore X12.here hx rfl (hb hby at_37) rfl rfl (l' := #[iv p0, iv p1, iv p2, iv p3, iv p4, iv (own_n nn), rv b1, rv b3, .unset, .unset, .unset, .unset, .unset, .unset, .unset, .unset, .unset, .unset, .unset, .unset, .unset, .unset, .unset, .unset, .unset, .unset]) rfl ?_
            refine XS.iload X12.here hx rfl (hb hby at_39) rfl ?_
            show oS p e below T12 (mkF m 41 #[iv p0, iv p1, iv p2, iv p3, iv p4, iv (own_n nn), rv b1, rv b3, .unset, .unset, .unset, .unset, .unset, .unset, .unset, .unset, .unset, .unset, .unset, .unset, .unset, .unset, .unset, .unset, .unset, .unset] [(.int (own_n nn))]) _
            refine XS.istore X12.here hx rfl (hb hby at_41) rfl (l' := #[iv p0, iv p1, iv p2, iv p3, iv p4, iv (own_n nn), rv b1, rv b3, iv (own_n nn), .unset, .unset, .unset, .unset, .unset, .unset, .unset, .unset, .unset, .unset, .unset, .unset, .unset, .unset, .unset, .unset, .unset]) rfl ?_
            refine XT.iconstV X12.here hx rfl (1 : Int32) (hb hby at_43) (by decide) ?_
            refine XS.istore X12.here hx rfl (hb hby at_44) rfl (l' := #[iv p0, iv p1, iv p2, iv p3, iv p4, iv (own_n nn), rv b1, rv b3, iv (own_n nn), iv 1, .unset, .unset, .unset, .unset, .unset, .unset, .unset, .unset, .unset, .unset, .unset, .unset, .unset, .unset, .unset, .unset]) rfl ?_
            refine XS.iloadN X12.here hx rfl (hb hby at_46) rfl ?_
            refine XS.iload X12.here hx rfl (hb hby at_47) rfl ?_
            refine st13 _ ?_
            refine XS.istore X13.here hx rfl (hb hby at_52) rfl (l' := #[iv p0, iv p1, iv p2, iv p3, iv p4, iv (own_n nn), rv b1, rv b3, iv (own_n nn), iv 1, iv (own_n kq13), .unset, .unset, .unset, .unset, .unset, .unset, .unset, .unset, .unset, .unset, .unset, .unset, .unset, .unset, .unset]) rfl ?_
            refine XS.iloadN X13.here hx rfl (hb hby at_54) rfl ?_
            show oS p e below T13 (mkF m 55 #[iv p0, iv p1, iv p2, iv p3, iv p4, iv (own_n nn), rv b1, rv b3, iv (own_n nn), iv 1, iv (own_n kq13), .unset, .unset, .unset, .unset, .unset, .unset, .unset, .unset, .unset, .unset, .unset, .unset, .unset, .unset, .unset] [(.int p1)]) _
            refine XS.iload X13.here hx rfl (hb hby at_55) rfl ?_
            refine st14 _ ?_
            refine XS.istore X14.here hx rfl (hb hby at_60) rfl (l' := #[iv p0, iv p1, iv p2, iv p3, iv p4, iv (own_n nn), rv b1, rv b3, iv (own_n nn), iv 1, iv (own_n kq13), iv (own_n kq14), .unset, .unset, .unset, .unset, .unset, .unset, .unset, .unset, .unset, .unset, .unset, .unset, .unset, .unset]) rfl ?_
            refine XS.aload X14.here hx rfl (hb hby at_62) rfl rfl ?_
            refine XS.iload X14.here hx rfl (hb hby at_64) rfl ?_
            refine XS.iload X14.here hx rfl (hb hby at_66) rfl ?_
            refine st19 _ ?_
            refine XS.istore X19.here hx rfl (hb hby at_71) rfl (l' := #[iv p0, iv p1, iv p2, iv p3, iv p4, iv (own_n nn), rv b1, rv b3, iv (own_n nn), iv 1, iv (own_n kq13), iv (own_n kq14), iv 1, .unset, .unset, .unset, .unset, .unset, .unset, .unset, .unset, .unset, .unset, .unset, .unset, .unset]) rfl ?_
            show oS p e below T19 (mkF m 73 #[iv p0, iv p1, iv p2, iv p3, iv p4, iv (own_n nn), rv b1, rv b3, iv (own_n nn), iv 1, iv (own_n kq13), iv (own_n kq14), iv 1, .unset, .unset, .unset, .unset, .unset, .unset, .unset, .unset, .unset, .unset, .unset, .unset, .unset] []) _
            refine XS.aload X19.here hx rfl (hb hby at_73) rfl rfl ?_
            refine XS.iload X19.here hx rfl (hb hby at_75) rfl ?_
            refine XS.iload X19.here hx rfl (hb hby at_77) rfl ?_
            refine st123 _ ?_
            refine XS.istore X123.here hx rfl (hb hby at_82) rfl (l' := #[iv p0, iv p1, iv p2, iv p3, iv p4, iv (own_n nn), rv b1, rv b3, iv (own_n nn), iv 1, iv (own_n kq13), iv (own_n kq14), iv 1, iv 1, .unset, .unset, .unset, .unset, .unset, .unset, .unset, .unset, .unset, .unset, .unset, .unset]) rfl ?_
            refine XS.iload X123.here hx rfl (hb hby at_84) rfl ?_
            refine XS.ifNo X123.here hx rfl (hb hby at_86) rfl (XT.i0_eq_f (by decide)) ?_
            refine XS.iload X123.here hx rfl (hb hby at_89) rfl ?_
            show oS p e below T123 (mkF m 91 #[iv p0, iv p1, iv p2, iv p3, iv p4, iv (own_n nn), rv b1, rv b3, iv (own_n nn), iv 1, iv (own_n kq13), iv (own_n kq14), iv 1, iv 1, .unset, .unset, .unset, .unset, .unset, .unset, .unset, .unset, .unset, .unset, .unset, .unset] [(.int (own_n nn))]) _
            refine XT.iconstV X123.here hx rfl (1 : Int32) (hb hby at_91) (by decide) ?_
            refine XS.isub X123.here hx rfl (hb hby at_92) rfl ?_
            refine XS.istore X123.here hx rfl (hb hby at_93) rfl (l' := #[iv p0, iv p1, iv p2, iv p3, iv p4, iv (own_n nn), rv b1, rv b3, iv (((own_n nn) - (1 : Int32))), iv 1, iv (own_n kq13), iv (own_n kq14), iv 1, iv 1, .unset, .unset, .unset, .unset, .unset, .unset, .unset, .unset, .unset, .unset, .unset, .unset]) rfl ?_
            refine XS.iload X123.here hx rfl (hb hby at_95) rfl ?_
            refine XS.ifNo X123.here hx rfl (hb hby at_97) rfl (XT.i0_eq_f (by decide)) ?_
            refine XS.iload X123.here hx rfl (hb hby at_100) rfl ?_
            refine XS.iload X123.here hx rfl (hb hby at_102) rfl ?_
            refine XS.icmpNo X123.here hx rfl (hb hby at_104) rfl (XT.ii_ne_f (by decide)) ?_
            show oS p e below T123 (mkF m 107 #[iv p0, iv p1, iv p2, iv p3, iv p4, iv (own_n nn), rv b1, rv b3, iv (((own_n nn) - (1 : Int32))), iv 1, iv (own_n kq13), iv (own_n kq14), iv 1, iv 1, .unset, .unset, .unset, .unset, .unset, .unset, .unset, .unset, .unset, .unset, .unset, .unset] []) _
            refine XS.aload X123.here hx rfl (hb hby at_107) rfl rfl ?_
            refine st125 _ ?_
            refine XS.iload X125.here hx rfl (hb hby at_112) rfl ?_
            refine XS.icmpNo X125.here hx rfl (hb hby at_114) rfl (XT.ii_ne_f rfl) ?_
            refine XT.iconstV X125.here hx rfl (1 : Int32) (hb hby at_117) (by decide) ?_
            refine XS.goto X125.here hx rfl (pc0 := 118) (pc' := 122) rfl (hb hby at_118) (by decide) (by decide) ?_
            refine XS.istore X125.here hx rfl (hb hby at_122) rfl (l' := #[iv p0, iv p1, iv p2, iv p3, iv p4, iv (own_n nn), rv b1, rv b3, iv (((own_n nn) - (1 : Int32))), iv 1, iv (own_n kq13), iv (own_n kq14), iv 1, iv 1, .unset, .unset, .unset, .unset, .unset, .unset, .unset, .unset, .unset, .unset, .unset, .unset]) rfl ?_
            refine XS.iloadN X125.here hx rfl (hb hby at_124) rfl ?_
            show oS p e below T125 (mkF m 125 #[iv p0, iv p1, iv p2, iv p3, iv p4, iv (own_n nn), rv b1, rv b3, iv (((own_n nn) - (1 : Int32))), iv 1, iv (own_n kq13), iv (own_n kq14), iv 1, iv 1, .unset, .unset, .unset, .unset, .unset, .unset, .unset, .unset, .unset, .unset, .unset, .unset] [(.int p2)]) _
            refine XS.iload X125.here hx rfl (hb hby at_125) rfl ?_
            refine st127 _ ?_
            refine XS.istore X127.here hx rfl (hb hby at_130) rfl (l' := #[iv p0, iv p1, iv p2, iv p3, iv p4, iv (own_n nn), rv b1, rv b3, iv (((own_n nn) - (1 : Int32))), iv 1, iv (own_n kq13), iv (own_n kq14), iv 1, iv 1, iv (own_n kq127), .unset, .unset, .unset, .unset, .unset, .unset, .unset, .unset, .unset, .unset, .unset]) rfl ?_
            refine XS.iloadN X127.here hx rfl (hb hby at_132) rfl ?_
            refine XS.iload X127.here hx rfl (hb hby at_133) rfl ?_
            refine st128 _ ?_
            refine XS.istore X128.here hx rfl (hb hby at_138) rfl (l' := #[iv p0, iv p1, iv p2, iv p3, iv p4, iv (own_n nn), rv b1, rv b3, iv (((own_n nn) - (1 : Int32))), iv 1, iv (own_n kq13), iv (own_n kq14), iv 1, iv 1, iv (own_n kq127), iv (own_n kq128), .unset, .unset, .unset, .unset, .unset, .unset, .unset, .unset, .unset, .unset]) rfl ?_
            refine XS.aload X128.here hx rfl (hb hby at_140) rfl rfl ?_
            show oS p e below T128 (mkF m 142 #[iv p0, iv p1, iv p2, iv p3, iv p4, iv (own_n nn), rv b1, rv b3, iv (((own_n nn) - (1 : Int32))), iv 1, iv (own_n kq13), iv (own_n kq14), iv 1, iv 1, iv (own_n kq127), iv (own_n kq128), .unset, .unset, .unset, .unset, .unset, .unset, .unset, .unset, .unset, .unset] [(.ref b1)]) _
            refine XS.iload X128.here hx rfl (hb hby at_142) rfl ?_
            refine XS.iload X128.here hx rfl (hb hby at_144) rfl ?_
            refine st131 _ ?_
            refine XS.istore X131.here hx rfl (hb hby at_149) rfl (l' := #[iv p0, iv p1, iv p2, iv p3, iv p4, iv (own_n nn), rv b1, rv b3, iv (((own_n nn) - (1 : Int32))), iv 1, iv (own_n kq13), iv (own_n kq14), iv 1, iv 1, iv (own_n kq127), iv (own_n kq128), iv 0, .unset, .unset, .unset, .unset, .unset, .unset, .unset, .unset, .unset]) rfl ?_
            refine XS.aload X131.here hx rfl (hb hby at_151) rfl rfl ?_
            refine XS.iload X131.here hx rfl (hb hby at_153) rfl ?_
            refine XS.iload X131.here hx rfl (hb hby at_155) rfl ?_
            refine st133 _ ?_
            show oS p e below T133 (mkF m 160 #[iv p0, iv p1, iv p2, iv p3, iv p4, iv (own_n nn), rv b1, rv b3, iv (((own_n nn) - (1 : Int32))), iv 1, iv (own_n kq13), iv (own_n kq14), iv 1, iv 1, iv (own_n kq127), iv (own_n kq128), iv 0, .unset, .unset, .unset, .unset, .unset, .unset, .unset, .unset, .unset] [(.int 0)]) _
            refine XS.istore X133.here hx rfl (hb hby at_160) rfl (l' := #[iv p0, iv p1, iv p2, iv p3, iv p4, iv (own_n nn), rv b1, rv b3, iv (((own_n nn) - (1 : Int32))), iv 1, iv (own_n kq13), iv (own_n kq14), iv 1, iv 1, iv (own_n kq127), iv (own_n kq128), iv 0, iv 0, .unset, .unset, .unset, .unset, .unset, .unset, .unset, .unset]) rfl ?_
            refine XS.iload X133.here hx rfl (hb hby at_162) rfl ?_
            refine XS.ifYes X133.here hx rfl (pc0 := 164) (pc' := 173) rfl (hb hby at_164) rfl (XT.i0_eq_t (by decide)) (by decide) (by decide) ?_
            refine XS.iload X133.here hx rfl (hb hby at_173) rfl ?_
            refine XS.ifNo X133.here hx rfl (hb hby at_175) rfl (XT.i0_eq_f (by decide)) ?_
            refine XS.iload X133.here hx rfl (hb hby at_178) rfl ?_
            refine XS.iload X133.here hx rfl (hb hby at_180) rfl ?_
            refine XS.icmpNo X133.here hx rfl (hb hby at_182) rfl (XT.ii_ne_f (by decide)) ?_
            show oS p e below T133 (mkF m 185 #[iv p0, iv p1, iv p2, iv p3, iv p4, iv (own_n nn), rv b1, rv b3, iv (((own_n nn) - (1 : Int32))), iv 1, iv (own_n kq13), iv (own_n kq14), iv 1, iv 1, iv (own_n kq127), iv (own_n kq128), iv 0, iv 0, .unset, .unset, .unset, .unset, .unset, .unset, .unset, .unset] []) _
            refine XS.aload X133.here hx rfl (hb hby at_185) rfl rfl ?_
            refine st134 _ ?_
            refine XS.iload X134.here hx rfl (hb hby at_190) rfl ?_
            refine XS.icmpNo X134.here hx rfl (hb hby at_192) rfl (XT.ii_ne_f rfl) ?_
            refine XT.iconstV X134.here hx rfl (1 : Int32) (hb hby at_195) (by decide) ?_
            refine XS.goto X134.here hx rfl (pc0 := 196) (pc' := 200) rfl (hb hby at_196) (by decide) (by decide) ?_
            refine XS.istore X134.here hx rfl (hb hby at_200) rfl (l' := #[iv p0, iv p1, iv p2, iv p3, iv p4, iv (own_n nn), rv b1, rv b3, iv (((own_n nn) - (1 : Int32))), iv 1, iv (own_n kq13), iv (own_n kq14), iv 1, iv 1, iv (own_n kq127), iv (own_n kq128), iv 0, iv 0, .unset, .unset, .unset, .unset, .unset, .unset, .unset, .unset]) rfl ?_
            refine XS.iloadN X134.here hx rfl (hb hby at_202) rfl ?_
            show oS p e below T134 (mkF m 203 #[iv p0, iv p1, iv p2, iv p3, iv p4, iv (own_n nn), rv b1, rv b3, iv (((own_n nn) - (1 : Int32))), iv 1, iv (own_n kq13), iv (own_n kq14), iv 1, iv 1, iv (own_n kq127), iv (own_n kq128), iv 0, iv 0, .unset, .unset, .unset, .unset, .unset, .unset, .unset, .unset] [(.int p3)]) _
            refine XS.iload X134.here hx rfl (hb hby at_203) rfl ?_
            refine st136 _ ?_
            refine XS.istore X136.here hx rfl (hb hby at_208) rfl (l' := #[iv p0, iv p1, iv p2, iv p3, iv p4, iv (own_n nn), rv b1, rv b3, iv (((own_n nn) - (1 : Int32))), iv 1, iv (own_n kq13), iv (own_n kq14), iv 1, iv 1, iv (own_n kq127), iv (own_n kq128), iv 0, iv 0, iv (own_n kq136), .unset, .unset, .unset, .unset, .unset, .unset, .unset]) rfl ?_
            refine XS.iloadN X136.here hx rfl (hb hby at_210) rfl ?_
            refine XS.iload X136.here hx rfl (hb hby at_211) rfl ?_
            refine st137 _ ?_
            refine XS.istore X137.here hx rfl (hb hby at_216) rfl (l' := #[iv p0, iv p1, iv p2, iv p3, iv p4, iv (own_n nn), rv b1, rv b3, iv (((own_n nn) - (1 : Int32))), iv 1, iv (own_n kq13), iv (own_n kq14), iv 1, iv 1, iv (own_n kq127), iv (own_n kq128), iv 0, iv 0, iv (own_n kq136), iv (own_n kq137), .unset, .unset, .unset, .unset, .unset, .unset]) rfl ?_
            refine XS.aload X137.here hx rfl (hb hby at_218) rfl rfl ?_
            show oS p e below T137 (mkF m 220 #[iv p0, iv p1, iv p2, iv p3, iv p4, iv (own_n nn), rv b1, rv b3, iv (((own_n nn) - (1 : Int32))), iv 1, iv (own_n kq13), iv (own_n kq14), iv 1, iv 1, iv (own_n kq127), iv (own_n kq128), iv 0, iv 0, iv (own_n kq136), iv (own_n kq137), .unset, .unset, .unset, .unset, .unset, .unset] [(.ref b1)]) _
            refine XS.iload X137.here hx rfl (hb hby at_220) rfl ?_
            refine XS.iload X137.here hx rfl (hb hby at_222) rfl ?_
            refine st138 _ ?_
            refine XS.istore X138.here hx rfl (hb hby at_227) rfl (l' := #[iv p0, iv p1, iv p2, iv p3, iv p4, iv (own_n nn), rv b1, rv b3, iv (((own_n nn) - (1 : Int32))), iv 1, iv (own_n kq13), iv (own_n kq14), iv 1, iv 1, iv (own_n kq127), iv (own_n kq128), iv 0, iv 0, iv (own_n kq136), iv (own_n kq137), iv 0, .unset, .unset, .unset, .unset, .unset]) rfl ?_
            refine XS.aload X138.here hx rfl (hb hby at_229) rfl rfl ?_
            refine XS.iload X138.here hx rfl (hb hby at_231) rfl ?_
            refine XS.iload X138.here hx rfl (hb hby at_233) rfl ?_
            refine st140 _ ?_
            show oS p e below T140 (mkF m 238 #[iv p0, iv p1, iv p2, iv p3, iv p4, iv (own_n nn), rv b1, rv b3, iv (((own_n nn) - (1 : Int32))), iv 1, iv (own_n kq13), iv (own_n kq14), iv 1, iv 1, iv (own_n kq127), iv (own_n kq128), iv 0, iv 0, iv (own_n kq136), iv (own_n kq137), iv 0, .unset, .unset, .unset, .unset, .unset] [(.int 0)]) _
            refine XS.istore X140.here hx rfl (hb hby at_238) rfl (l' := #[iv p0, iv p1, iv p2, iv p3, iv p4, iv (own_n nn), rv b1, rv b3, iv (((own_n nn) - (1 : Int32))), iv 1, iv (own_n kq13), iv (own_n kq14), iv 1, iv 1, iv (own_n kq127), iv (own_n kq128), iv 0, iv 0, iv (own_n kq136), iv (own_n kq137), iv 0, iv 0, .unset, .unset, .unset, .unset]) rfl ?_
            refine XS.iload X140.here hx rfl (hb hby at_240) rfl ?_
            refine XS.ifYes X140.here hx rfl (pc0 := 242) (pc' := 251) rfl (hb hby at_242) rfl (XT.i0_eq_t (by decide)) (by decide) (by decide) ?_
            refine XS.iload X140.here hx rfl (hb hby at_251) rfl ?_
            refine XS.ifNo X140.here hx rfl (hb hby at_253) rfl (XT.i0_eq_f (by decide)) ?_
            refine XS.iload X140.here hx rfl (hb hby at_256) rfl ?_
            refine XS.iload X140.here hx rfl (hb hby at_258) rfl ?_
            refine XS.icmpNo X140.here hx rfl (hb hby at_260) rfl (XT.ii_ne_f (by decide)) ?_
            show oS p e below T140 (mkF m 263 #[iv p0, iv p1, iv p2, iv p3, iv p4, iv (own_n nn), rv b1, rv b3, iv (((own_n nn) - (1 : Int32))), iv 1, iv (own_n kq13), iv (own_n kq14), iv 1, iv 1, iv (own_n kq127), iv (own_n kq128), iv 0, iv 0, iv (own_n kq136), iv (own_n kq137), iv 0, iv 0, .unset, .unset, .unset, .unset] []) _
            refine XS.aload X140.here hx rfl (hb hby at_263) rfl rfl ?_
            refine st141 _ ?_
            refine XS.iload X141.here hx rfl (hb hby at_268) rfl ?_
            refine XS.icmpNo X141.here hx rfl (hb hby at_270) rfl (XT.ii_ne_f rfl) ?_
            refine XT.iconstV X141.here hx rfl (1 : Int32) (hb hby at_273) (by decide) ?_
            refine XS.goto X141.here hx rfl (pc0 := 274) (pc' := 278) rfl (hb hby at_274) (by decide) (by decide) ?_
            refine XS.istore X141.here hx rfl (hb hby at_278) rfl (l' := #[iv p0, iv p1, iv p2, iv p3, iv p4, iv (own_n nn), rv b1, rv b3, iv (((own_n nn) - (1 : Int32))), iv 1, iv (own_n kq13), iv (own_n kq14), iv 1, iv 1, iv (own_n kq127), iv (own_n kq128), iv 0, iv 0, iv (own_n kq136), iv (own_n kq137), iv 0, iv 0, .unset, .unset, .unset, .unset]) rfl ?_
            refine XS.iload X141.here hx rfl (hb hby at_280) rfl ?_
            show oS p e below T141 (mkF m 282 #[iv p0, iv p1, iv p2, iv p3, iv p4, iv (own_n nn), rv b1, rv b3, iv (((own_n nn) - (1 : Int32))), iv 1, iv (own_n kq13), iv (own_n kq14), iv 1, iv 1, iv (own_n kq127), iv (own_n kq128), iv 0, iv 0, iv (own_n kq136), iv (own_n kq137), iv 0, iv 0, .unset, .unset, .unset, .unset] [(.int p4)]) _
            refine XS.iload X141.here hx rfl (hb hby at_282) rfl ?_
            refine st143 _ ?_
            refine XS.istore X143.here hx rfl (hb hby at_287) rfl (l' := #[iv p0, iv p1, iv p2, iv p3, iv p4, iv (own_n nn), rv b1, rv b3, iv (((own_n nn) - (1 : Int32))), iv 1, iv (own_n kq13), iv (own_n kq14), iv 1, iv 1, iv (own_n kq127), iv (own_n kq128), iv 0, iv 0, iv (own_n kq136), iv (own_n kq137), iv 0, iv 0, iv (own_n kq143), .unset, .unset, .unset]) rfl ?_
            refine XS.iload X143.here hx rfl (hb hby at_289) rfl ?_
            refine XS.iload X143.here hx rfl (hb hby at_291) rfl ?_
            refine st144 _ ?_
            refine XS.istore X144.here hx rfl (hb hby at_296) rfl (l' := #[iv p0, iv p1, iv p2, iv p3, iv p4, iv (own_n nn), rv b1, rv b3, iv (((own_n nn) - (1 : Int32))), iv 1, iv (own_n kq13), iv (own_n kq14), iv 1, iv 1, iv (own_n kq127), iv (own_n kq128), iv 0, iv 0, iv (own_n kq136), iv (own_n kq137), iv 0, iv 0, iv (own_n kq143), iv (own_n kq144), .unset, .unset]) rfl ?_
            refine XS.aload X144.here hx rfl (hb hby at_298) rfl rfl ?_
            show oS p e below T144 (mkF m 300 #[iv p0, iv p1, iv p2, iv p3, iv p4, iv (own_n nn), rv b1, rv b3, iv (((own_n nn) - (1 : Int32))), iv 1, iv (own_n kq13), iv (own_n kq14), iv 1, iv 1, iv (own_n kq127), iv (own_n kq128), iv 0, iv 0, iv (own_n kq136), iv (own_n kq137), iv 0, iv 0, iv (own_n kq143), iv (own_n kq144), .unset, .unset] [(.ref b1)]) _
            refine XS.iload X144.here hx rfl (hb hby at_300) rfl ?_
            refine XS.iload X144.here hx rfl (hb hby at_302) rfl ?_
            refine st145 _ ?_
            refine XS.istore X145.here hx rfl (hb hby at_307) rfl (l' := #[iv p0, iv p1, iv p2, iv p3, iv p4, iv (own_n nn), rv b1, rv b3, iv (((own_n nn) - (1 : Int32))), iv 1, iv (own_n kq13), iv (own_n kq14), iv 1, iv 1, iv (own_n kq127), iv (own_n kq128), iv 0, iv 0, iv (own_n kq136), iv (own_n kq137), iv 0, iv 0, iv (own_n kq143), iv (own_n kq144), iv 0, .unset]) rfl ?_
            refine XS.aload X145.here hx rfl (hb hby at_309) rfl rfl ?_
            refine XS.iload X145.here hx rfl (hb hby at_311) rfl ?_
            refine XS.iload X145.here hx rfl (hb hby at_313) rfl ?_
            refine st147 _ ?_
            show oS p e below T147 (mkF m 318 #[iv p0, iv p1, iv p2, iv p3, iv p4, iv (own_n nn), rv b1, rv b3, iv (((own_n nn) - (1 : Int32))), iv 1, iv (own_n kq13), iv (own_n kq14), iv 1, iv 1, iv (own_n kq127), iv (own_n kq128), iv 0, iv 0, iv (own_n kq136), iv (own_n kq137), iv 0, iv 0, iv (own_n kq143), iv (own_n kq144), iv 0, .unset] [(.int 0)]) _
            refine XS.istore X147.here hx rfl (hb hby at_318) rfl (l' := #[iv p0, iv p1, iv p2, iv p3, iv p4, iv (own_n nn), rv b1, rv b3, iv (((own_n nn) - (1 : Int32))), iv 1, iv (own_n kq13), iv (own_n kq14), iv 1, iv 1, iv (own_n kq127), iv (own_n kq128), iv 0, iv 0, iv (own_n kq136), iv (own_n kq137), iv 0, iv 0, iv (own_n kq143), iv (own_n kq144), iv 0, iv 0]) rfl ?_
            refine XS.iload X147.here hx rfl (hb hby at_320) rfl ?_
            refine XS.ifYes X147.here hx rfl (pc0 := 322) (pc' := 331) rfl (hb hby at_322) rfl (XT.i0_eq_t (by decide)) (by decide) (by decide) ?_
            refine XS.iload X147.here hx rfl (hb hby at_331) rfl ?_
            refine XS.ifNo X147.here hx rfl (hb hby at_333) rfl (XT.i0_eq_f (by decide)) ?_
            refine XS.iload X147.here hx rfl (hb hby at_336) rfl ?_
            refine XS.iload X147.here hx rfl (hb hby at_338) rfl ?_
            refine XS.icmpNo X147.here hx rfl (hb hby at_340) rfl (XT.ii_ne_f (by decide)) ?_
            show oS p e below T147 (mkF m 343 #[iv p0, iv p1, iv p2, iv p3, iv p4, iv (own_n nn), rv b1, rv b3, iv (((own_n nn) - (1 : Int32))), iv 1, iv (own_n kq13), iv (own_n kq14), iv 1, iv 1, iv (own_n kq127), iv (own_n kq128), iv 0, iv 0, iv (own_n kq136), iv (own_n kq137), iv 0, iv 0, iv (own_n kq143), iv (own_n kq144), iv 0, iv 0] []) _
            refine XS.aload X147.here hx rfl (hb hby at_343) rfl rfl ?_
            refine st148 _ ?_
            refine XS.iload X148.here hx rfl (hb hby at_348) rfl ?_
            refine XS.icmpNo X148.here hx rfl (hb hby at_350) rfl (XT.ii_ne_f rfl) ?_
            refine XT.iconstV X148.here hx rfl (1 : Int32) (hb hby at_353) (by decide) ?_
            refine XS.goto X148.here hx rfl (pc0 := 354) (pc' := 358) rfl (hb hby at_354) (by decide) (by decide) ?_
            refine XS.istore X148.here hx rfl (hb hby at_358) rfl (l' := #[iv p0, iv p1, iv p2, iv p3, iv p4, iv (own_n nn), rv b1, rv b3, iv (((own_n nn) - (1 : Int32))), iv 1, iv (own_n kq13), iv (own_n kq14), iv 1, iv 1, iv (own_n kq127), iv (own_n kq128), iv 0, iv 0, iv (own_n kq136), iv (own_n kq137), iv 0, iv 0, iv (own_n kq143), iv (own_n kq144), iv 0, iv 0]) rfl ?_
            refine XS.iload X148.here hx rfl (hb hby at_360) rfl ?_
            show oS p e below T148 (mkF m 362 #[iv p0, iv p1, iv p2, iv p3, iv p4, iv (own_n nn), rv b1, rv b3, iv (((own_n nn) - (1 : Int32))), iv 1, iv (own_n kq13), iv (own_n kq14), iv 1, iv 1, iv (own_n kq127), iv (own_n kq128), iv 0, iv 0, iv (own_n kq136), iv (own_n kq137), iv 0, iv 0, iv (own_n kq143), iv (own_n kq144), iv 0, iv 0] [(.int 1)]) _
            exact kz)
          obtain ⟨fs, hr, hrun, hended, hW, hsame⟩ := X148.leave (v := some (.int 1)) (fun h => by rw [Bd.returns] at h; cases h)
          refine ⟨_, _, pre0 _ (S150 _ ?_), hrun, hended, _, _, rfl, ?_, ⟨_, rfl⟩, hW, hsame.mono (by decide) (by decide)⟩
          · exact retN X148 hx (t := .boolean) Bd.returns (by simp) (hb hby at_362) hr
          · show Qrm0s Z p0 p1 p2 p3 p4 nn h0 n0 _ T148.heap _
            rw [e148]
            exact ⟨rfl, N148⟩
        · have N145 := Fr.app N144 N145q
          have e145 : T145.heap = T145.heap := rfl
          have Zk145 : n0 ≤ T145.heap.size := Nat.le_trans Zk138 K145.1
          have Kk145 : Keep h0 T145.heap [] := Kk138.trans K145 (allS (Or.inr sz_b1) (allS (Or.inr sz_b2') all0))
          have f151 := (f139.keep K145 (ninS (Ne.symm ne_b1_b3) (ninS (Ne.symm ne_b2'_b3) nin0)))
          obtain ⟨_, T152, Lc152, X152, hQ152, st152⟩ := own_callS (W := 0) (y := mN5) X145 hx hZ hown (hw _ (own_w 30 rfl)) (hw _ (own_w 31 rfl)) (hw _ (own_w 16 rfl)) (hw _ (own_w 32 rfl)) (by decide) (rmRef1 l Z av0 hw [] b3 k3 (own_L own_n (own_n kq13) (own_n kq14)) kq143 kq144 T145.heap n0 Zk145 f151 (Nat.lt_of_lt_of_le lq143 hnn) (Nat.lt_of_lt_of_le lq144 hnn) ge_b3 (fun q => rs145 ((RL123 _ lq143 _ lq144).mpr q))) (by decide) (by decide) (g := (mkF m 315 #[iv p0, iv p1, iv p2, iv p3, iv p4, iv (own_n nn), rv b1, rv b3, iv (((own_n nn) - (1 : Int32))), iv 1, iv (own_n kq13), iv (own_n kq14), iv 1, iv 1, iv (own_n kq127), iv (own_n kq128), iv 0, iv 0, iv (own_n kq136), iv (own_n kq137), iv 0, iv 0, iv (own_n kq143), iv (own_n kq144), iv 1, .unset] [(.int (own_n kq144)), (.int (own_n kq143)), (.ref b3)])) rfl (by rw [hml]; rfl) (argsL := [(.ref b3), (.int (own_n kq143)), (.int (own_n kq144))]) (rest := []) (lenOf pd__III_Z rfl) rfl (hb hby at_315) rfl e145 (by decide : 3 + 0 ≤ _) (by decide : 10 + 0 ≤ _)
          obtain ⟨rfl, N152q, K152, B152⟩ := hQ152
          have N152 := Fr.app N145 N152q
          have e152 : T152.heap = T152.heap := rfl
          have Zk152 : n0 ≤ T152.heap.size := Nat.le_trans Zk145 K152.1
          have Kk152 : Keep h0 T152.heap [] := Kk145.trans K152 (allS (Or.inr sz_b3) all0)
          have RL152 := own_RL RL123 lq143 lq144
          have f153 := (C145.keep K152 (ninS ne_b1_b3 nin0))
          have f155 := ((f142.keep K145).keep K152)
          obtain ⟨_, T154, Lc154, X154, hQ154, st154⟩ := own_virtual (W := 0) (y := mN0) (z := mN0) X152 hx hZ hown (hw _ (own_w 33 rfl)) (hw _ (own_w 34 rfl)) (notFace_of_selects (args := #[]) (mvT hZ (hw _ (own_w 36 rfl)))) (hw _ (own_w 36 rfl)) (hw _ (own_w 35 rfl)) (hw _ (own_w 37 rfl)) (hw _ (own_w 2 rfl)) (by decide) (rmCount l Z av0 hw [] b1 (((own_n nn) - (1 : Int32)) - (1 : Int32)) T152.heap n0 Zk152 f153) (by decide) (by decide) f155 (g := (mkF m 345 #[iv p0, iv p1, iv p2, iv p3, iv p4, iv (own_n nn), rv b1, rv b3, iv ((((own_n nn) - (1 : Int32)) - (1 : Int32))), iv 1, iv (own_n kq13), iv (own_n kq14), iv 1, iv 1, iv (own_n kq127), iv (own_n kq128), iv 0, iv 0, iv (own_n kq136), iv (own_n kq137), iv 0, iv 0, iv (own_n kq143), iv (own_n kq144), iv 1, iv 1] [(.ref b1)])) rfl (by rw [hml]; rfl) (argsL := []) (rest := []) (lenOf pd__I rfl) rfl (hb hby at_345) rfl e152 (by decide : 3 + 0 ≤ _) (by decide : 10 + 0 ≤ _)
          obtain ⟨rfl, N154q, hh154⟩ := hQ154
          have N154 := Fr.app N152 N154q
          have e154 : T154.heap = T152.heap := hh154
          have S156 : ∀ tz, oS p e below T154 (mkF m 362 #[iv p0, iv p1, iv p2, iv p3, iv p4, iv (own_n nn), rv b1, rv b3, iv ((((own_n nn) - (1 : Int32)) - (1 : Int32))), iv 1, iv (own_n kq13), iv (own_n kq14), iv 1, iv 1, iv (own_n kq127), iv (own_n kq128), iv 0, iv 0, iv (own_n kq136), iv (own_n kq137), iv 0, iv 0, iv (own_n kq143), iv (own_n kq144), iv 1, iv 1] [(.int 1)]) tz → oS p e below s₁ (mkF m 0 #[iv p0, iv p1, iv p2, iv p3, iv p4, .unset, .unset, .unset, .unset, .unset, .unset, .unset, .unset, .unset, .unset, .unset, .unset, .unset, .unset, .unset, .unset, .unset, .unset, .unset, .unset, .unset] []) tz := fun tz kz => id (by
            show oS p e below s₁ (mkF m 0 #[iv p0, iv p1, iv p2, iv p3, iv p4, .unset, .unset, .unset, .unset, .unset, .unset, .unset, .unset, .unset, .unset, .unset, .unset, .unset, .unset, .unset, .unset, .unset, .unset, .unset, .unset, .unset] []) _
            refine XT.iconstV X0.here hx rfl (1 : Int32) (hb hby at_0) (by decide) ?_
            refine XS.iloadN X0.here hx rfl (hb hby at_1) rfl ?_
            refine XT.iconstV X0.here hx rfl (3 : Int32) (hb hby at_2) (by decide) ?_
            refine XS.iand X0.here hx rfl (hb hby at_3) rfl ?_
            refine XS.iadd X0.here hx rfl (hb hby at_4) rfl ?_
            show oS p e below s₁ (mkF m 5 #[iv p0, iv p1, iv p2, iv p3, iv p4, .unset, .unset, .unset, .unset, .unset, .unset, .unset, .unset, .unset, .unset, .unset, .unset, .unset, .unset, .unset, .unset, .unset, .unset, .unset, .unset, .unset] [(.int ((1 : Int32) + (p0 &&& (3 : Int32))))]) _
            rw [hn]
            show oS p e below s₁ (mkF m 5 #[iv p0, iv p1, iv p2, iv p3, iv p4, .unset, .unset, .unset, .unset, .unset, .unset, .unset, .unset, .unset, .unset, .unset, .unset, .unset, .unset, .unset, .unset, .unset, .unset, .unset, .unset, .unset] [(.int (own_n nn))]) _
            refine XS.istore X0.here hx rfl (hb hby at_5) rfl (l' := #[iv p0, iv p1, iv p2, iv p3, iv p4, iv (own_n nn), .unset, .unset, .unset, .unset, .unset, .unset, .unset, .unset, .unset, .unset, .unset, .unset, .unset, .unset, .unset, .unset, .unset, .unset, .unset, .unset]) rfl ?_
            refine st1 _ ?_
            show oS p e below T1 (mkF m 10 #[iv p0, iv p1, iv p2, iv p3, iv p4, iv (own_n nn), .unset, .unset, .unset, .unset, .unset, .unset, .unset, .unset, .unset, .unset, .unset, .unset, .unset, .unset, .unset, .unset, .unset, .unset, .unset, .unset] [(.ref b1)]) _
            refine XS.dup X1.here hx rfl (hb hby at_10) rfl rfl ?_
            refine XS.iload X1.here hx rfl (hb hby at_11) rfl ?_
            refine st2 _ ?_
            refine XS.astore X2.here hx rfl (hb hby at_16) rfl rfl (l' := #[iv p0, iv p1, iv p2, iv p3, iv p4, iv (own_n nn), rv b1, .unset, .unset, .unset, .unset, .unset, .unset, .unset, .unset, .unset, .unset, .unset, .unset, .unset, .unset, .unset, .unset, .unset, .unset, .unset]) rfl ?_
            refine XT.iconstV X2.here hx rfl (4 : Int32) (hb hby at_18) (by decide) ?_
            refine st3 _ ?_
            refine XS.dup X3.here hx rfl (hb hby at_21) rfl rfl ?_
            refine XT.iconstV X3.here hx rfl (0 : Int32) (hb hby at_22) (by decide) ?_
            show oS p e below T3 (mkF m 23 #[iv p0, iv p1, iv p2, iv p3, iv p4, iv (own_n nn), rv b1, .unset, .unset, .unset, .unset, .unset, .unset, .unset, .unset, .unset, .unset, .unset, .unset, .unset, .unset, .unset, .unset, .unset, .unset, .unset] [(.int 0), (.ref b3), (.ref b3)]) _
            refine XT.iconstV X3.here hx rfl (0 : Int32) (hb hby at_23) (by decide) ?_
            refine st6 _ ?_
            refine XS.dup X6.here hx rfl (hb hby at_25) rfl rfl ?_
            refine XT.iconstV X6.here hx rfl (1 : Int32) (hb hby at_26) (by decide) ?_
            refine XT.iconstV X6.here hx rfl (1 : Int32) (hb hby at_27) (by decide) ?_
            refine st8 _ ?_
            refine XS.dup X8.here hx rfl (hb hby at_29) rfl rfl ?_
            refine XT.iconstV X8.here hx rfl (2 : Int32) (hb hby at_30) (by decide) ?_
            show oS p e below T8 (mkF m 31 #[iv p0, iv p1, iv p2, iv p3, iv p4, iv (own_n nn), rv b1, .unset, .unset, .unset, .unset, .unset, .unset, .unset, .unset, .unset, .unset, .unset, .unset, .unset, .unset, .unset, .unset, .unset, .unset, .unset] [(.int 2), (.ref b3), (.ref b3)]) _
            refine XT.iconstV X8.here hx rfl (2 : Int32) (hb hby at_31) (by decide) ?_
            refine st10 _ ?_
            refine XS.dup X10.here hx rfl (hb hby at_33) rfl rfl ?_
            refine XT.iconstV X10.here hx rfl (3 : Int32) (hb hby at_34) (by decide) ?_
            refine XT.iconstV X10.here hx rfl (3 : Int32) (hb hby at_35) (by decide) ?_
            refine st12 _ ?_
            refine XS.astore X12.here hx rfl (hb hby at_37) rfl rfl (l' := #[iv p0, iv p1, iv p2, iv p3, iv p4, iv (own_n nn), rv b1, rv b3, .unset, .unset, .unset, .unset, .unset, .unset, .unset, .unset, .unset, .unset, .unset, .unset, .unset, .unset, .unset, .unset, .unset, .unset]) rfl ?_
            refine XS.iload X12.here hx rfl (hb hby at_39) rfl ?_
            show oS p e below T12 (mkF m 41 #[iv p0, iv p1, iv p2, iv p3, iv p4, iv (own_n nn), rv b1, rv b3, .unset, .unset, .unset, .unset, .unset, .unset, .unset, .unset, .unset, .unset, .unset, .unset, .unset, .unset, .unset, .unset, .unset, .unset] [(.int (own_n nn))]) _
            refine XS.istore X12.here hx rfl (hb hby at_41) rfl (l' := #[iv p0, iv p1, iv p2, iv p3, iv p4, iv (own_n nn), rv b1, rv b3, iv (own_n nn), .unset, .unset, .unset, .unset, .unset, .unset, .unset, .unset, .unset, .unset, .unset, .unset, .unset, .unset, .unset, .unset, .unset]) rfl ?_
            refine XT.iconstV X12.here hx rfl (1 : Int32) (hb hby at_43) (by decide) ?_
            refine XS.istore X12.here hx rfl (hb hby at_44) rfl (l' := #[iv p0, iv p1, iv p2, iv p3, iv p4, iv (own_n nn), rv b1, rv b3, iv (own_n nn), iv 1, .unset, .unset, .unset, .unset, .unset, .unset, .unset, .unset, .unset, .unset, .unset, .unset, .unset, .unset, .unset, .unset]) rfl ?_
            refine XS.iloadN X12.here hx rfl (hb hby at_46) rfl ?_
            refine XS.iload X12.here hx rfl (hb hby at_47) rfl ?_
            refine st13 _ ?_
            refine XS.istore X13.here hx rfl (hb hby at_52) rfl (l' := #[iv p0, iv p1, iv p2, iv p3, iv p4, iv (own_n nn), rv b1, rv b3, iv (own_n nn), iv 1, iv (own_n kq13), .unset, .unset, .unset, .unset, .unset, .unset, .unset, .unset, .unset, .unset, .unset, .unset, .unset, .unset, .unset]) rfl ?_
            refine XS.iloadN X13.here hx rfl (hb hby at_54) rfl ?_
            show oS p e below T13 (mkF m 55 #[iv p0, iv p1, iv p2, iv p3, iv p4, iv (own_n nn), rv b1, rv b3, iv (own_n nn), iv 1, iv (own_n kq13), .unset, .unset, .unset, .unset, .unset, .unset, .unset, .unset, .unset, .unset, .unset, .unset, .unset, .unset, .unset] [(.int p1)]) _
            refine XS.iload X13.here hx rfl (hb hby at_55) rfl ?_
            refine st14 _ ?_
            refine XS.istore X14.here hx rfl (hb hby at_60) rfl (l' := #[iv p0, iv p1, iv p2, iv p3, iv p4, iv (own_n nn), rv b1, rv b3, iv (own_n nn), iv 1, iv (own_n kq13), iv (own_n kq14), .unset, .unset, .unset, .unset, .unset, .unset, .unset, .unset, .unset, .unset, .unset, .unset, .unset, .unset]) rfl ?_
            refine XS.aload X14.here hx rfl (hb hby at_62) rfl rfl ?_
            refine XS.iload X14.here hx rfl (hb hby at_64) rfl ?_
            refine XS.iload X14.here hx rfl (hb hby at_66) rfl ?_
            refine st19 _ ?_
            refine XS.istore X19.here hx rfl (hb hby at_71) rfl (l' := #[iv p0, iv p1, iv p2, iv p3, iv p4, iv (own_n nn), rv b1, rv b3, iv (own_n nn), iv 1, iv (own_n kq13), iv (own_n kq14), iv 1, .unset, .unset, .unset, .unset, .unset, .unset, .unset, .unset, .unset, .unset, .unset, .unset, .unset]) rfl ?_
            show oS p e below T19 (mkF m 73 #[iv p0, iv p1, iv p2, iv p3, iv p4, iv (own_n nn), rv b1, rv b3, iv (own_n nn), iv 1, iv (own_n kq13), iv (own_n kq14), iv 1, .unset, .unset, .unset, .unset, .unset, .unset, .unset, .unset, .unset, .unset, .unset, .unset, .unset] []) _
            refine XS.aload X19.here hx rfl (hb hby at_73) rfl rfl ?_
            refine XS.iload X19.here hx rfl (hb hby at_75) rfl ?_
            refine XS.iload X19.here hx rfl (hb hby at_77) rfl ?_
            refine st123 _ ?_
            refine XS.istore X123.here hx rfl (hb hby at_82) rfl (l' := #[iv p0, iv p1, iv p2, iv p3, iv p4, iv (own_n nn), rv b1, rv b3, iv (own_n nn), iv 1, iv (own_n kq13), iv (own_n kq14), iv 1, iv 1, .unset, .unset, .unset, .unset, .unset, .unset, .unset, .unset, .unset, .unset, .unset, .unset]) rfl ?_
            refine XS.iload X123.here hx rfl (hb hby at_84) rfl ?_
            refine XS.ifNo X123.here hx rfl (hb hby at_86) rfl (XT.i0_eq_f (by decide)) ?_
            refine XS.iload X123.here hx rfl (hb hby at_89) rfl ?_
            show oS p e below T123 (mkF m 91 #[iv p0, iv p1, iv p2, iv p3, iv p4, iv (own_n nn), rv b1, rv b3, iv (own_n nn), iv 1, iv (own_n kq13), iv (own_n kq14), iv 1, iv 1, .unset, .unset, .unset, .unset, .unset, .unset, .unset, .unset, .unset, .unset, .unset, .unset] [(.int (own_n nn))]) _
            refine XT.iconstV X123.here hx rfl (1 : Int32) (hb hby at_91) (by decide) ?_
            refine XS.isub X123.here hx rfl (hb hby at_92) rfl ?_
            refine XS.istore X123.here hx rfl (hb hby at_93) rfl (l' := #[iv p0, iv p1, iv p2, iv p3, iv p4, iv (own_n nn), rv b1, rv b3, iv (((own_n nn) - (1 : Int32))), iv 1, iv (own_n kq13), iv (own_n kq14), iv 1, iv 1, .unset, .unset, .unset, .unset, .unset, .unset, .unset, .unset, .unset, .unset, .unset, .unset]) rfl ?_
            refine XS.iload X123.here hx rfl (hb hby at_95) rfl ?_
            refine XS.ifNo X123.here hx rfl (hb hby at_97) rfl (XT.i0_eq_f (by decide)) ?_
            refine XS.iload X123.here hx rfl (hb hby at_100) rfl ?_
            refine XS.iload X123.here hx rfl (hb hby at_102) rfl ?_
            refine XS.icmpNo X123.here hx rfl (hb hby at_104) rfl (XT.ii_ne_f (by decide)) ?_
            show oS p e below T123 (mkF m 107 #[iv p0, iv p1, iv p2, iv p3, iv p4, iv (own_n nn), rv b1, rv b3, iv (((own_n nn) - (1 : Int32))), iv 1, iv (own_n kq13), iv (own_n kq14), iv 1, iv 1, .unset, .unset, .unset, .unset, .unset, .unset, .unset, .unset, .unset, .unset, .unset, .unset] []) _
            refine XS.aload X123.here hx rfl (hb hby at_107) rfl rfl ?_
            refine st125 _ ?_
            refine XS.iload X125.here hx rfl (hb hby at_112) rfl ?_
            refine XS.icmpNo X125.here hx rfl (hb hby at_114) rfl (XT.ii_ne_f rfl) ?_
            refine XT.iconstV X125.here hx rfl (1 : Int32) (hb hby at_117) (by decide) ?_
            refine XS.goto X125.here hx rfl (pc0 := 118) (pc' := 122) rfl (hb hby at_118) (by decide) (by decide) ?_
            refine XS.istore X125.here hx rfl (hb hby at_122) rfl (l' := #[iv p0, iv p1, iv p2, iv p3, iv p4, iv (own_n nn), rv b1, rv b3, iv (((own_n nn) - (1 : Int32))), iv 1, iv (own_n kq13), iv (own_n kq14), iv 1, iv 1, .unset, .unset, .unset, .unset, .unset, .unset, .unset, .unset, .unset, .unset, .unset, .unset]) rfl ?_
            refine XS.iloadN X125.here hx rfl (hb hby at_124) rfl ?_
            show oS p e below T125 (mkF m 125 #[iv p0, iv p1, iv p2, iv p3, iv p4, iv (own_n nn), rv b1, rv b3, iv (((own_n nn) - (1 : Int32))), iv 1, iv (own_n kq13), iv (own_n kq14), iv 1, iv 1, .unset, .unset, .unset, .unset, .unset, .unset, .unset, .unset, .unset, .unset, .unset, .unset] [(.int p2)]) _
            refine XS.iload X125.here hx rfl (hb hby at_125) rfl ?_
            refine st127 _ ?_
            refine XS.istore X127.here hx rfl (hb hby at_130) rfl (l' := #[iv p0, iv p1, iv p2, iv p3, iv p4, iv (own_n nn), rv b1, rv b3, iv (((own_n nn) - (1 : Int32))), iv 1, iv (own_n kq13), iv (own_n kq14), iv 1, iv 1, iv (own_n kq127), .unset, .unset, .unset, .unset, .unset, .unset, .unset, .unset, .unset, .unset, .unset]) rfl ?_
            refine XS.iloadN X127.here hx rfl (hb hby at_132) rfl ?_
            refine XS.iload X127.here hx rfl (hb hby at_133) rfl ?_
            refine st128 _ ?_
            refine XS.istore X128.here hx rfl (hb hby at_138) rfl (l' := #[iv p0, iv p1, iv p2, iv p3, iv p4, iv (own_n nn), rv b1, rv b3, iv (((own_n nn) - (1 : Int32))), iv 1, iv (own_n kq13), iv (own_n kq14), iv 1, iv 1, iv (own_n kq127), iv (own_n kq128), .unset, .unset, .unset, .unset, .unset, .unset, .unset, .unset, .unset, .unset]) rfl ?_
            refine XS.aload X128.here hx rfl (hb hby at_140) rfl rfl ?_
            show oS p e below T128 (mkF m 142 #[iv p0, iv p1, iv p2, iv p3, iv p4, iv (own_n nn), rv b1, rv b3, iv (((own_n nn) - (1 : Int32))), iv 1, iv (own_n kq13), iv (own_n kq14), iv 1, iv 1, iv (own_n kq127), iv (own_n kq128), .unset, .unset, .unset, .unset, .unset, .unset, .unset, .unset, .unset, .unset] [(.ref b1)]) _
            refine XS.iload X128.here hx rfl (hb hby at_142) rfl ?_
            refine XS.iload X128.here hx rfl (hb hby at_144) rfl ?_
            refine st131 _ ?_
            refine XS.istore X131.here hx rfl (hb hby at_149) rfl (l' := #[iv p0, iv p1, iv p2, iv p3, iv p4, iv (own_n nn), rv b1, rv b3, iv (((own_n nn) - (1 : Int32))), iv 1, iv (own_n kq13), iv (own_n kq14), iv 1, iv 1, iv (own_n kq127), iv (own_n kq128), iv 0, .unset, .unset, .unset, .unset, .unset, .unset, .unset, .unset, .unset]) rfl ?_
            refine XS.aload X131.here hx rfl (hb hby at_151) rfl rfl ?_
            refine XS.iload X131.here hx rfl (hb hby at_153) rfl ?_
            refine XS.iload X131.here hx rfl (hb hby at_155) rfl ?_
            refine st133 _ ?_
            show oS p e below T133 (mkF m 160 #[iv p0, iv p1, iv p2, iv p3, iv p4, iv (own_n nn), rv b1, rv b3, iv (((own_n nn) - (1 : Int32))), iv 1, iv (own_n kq13), iv (own_n kq14), iv 1, iv 1, iv (own_n kq127), iv (own_n kq128), iv 0, .unset, .unset, .unset, .unset, .unset, .unset, .unset, .unset, .unset] [(.int 0)]) _
            refine XS.istore X133.here hx rfl (hb hby at_160) rfl (l' := #[iv p0, iv p1, iv p2, iv p3, iv p4, iv (own_n nn), rv b1, rv b3, iv (((own_n nn) - (1 : Int32))), iv 1, iv (own_n kq13), iv (own_n kq14), iv 1, iv 1, iv (own_n kq127), iv (own_n kq128), iv 0, iv 0, .unset, .unset, .unset, .unset, .unset, .unset, .unset, .unset]) rfl ?_
            refine XS.iload X133.here hx rfl (hb hby at_162) rfl ?_
            refine XS.ifYes X133.here hx rfl (pc0 := 164) (pc' := 173) rfl (hb hby at_164) rfl (XT.i0_eq_t (by decide)) (by decide) (by decide) ?_
            refine XS.iload X133.here hx rfl (hb hby at_173) rfl ?_
            refine XS.ifNo X133.here hx rfl (hb hby at_175) rfl (XT.i0_eq_f (by decide)) ?_
            refine XS.iload X133.here hx rfl (hb hby at_178) rfl ?_
            refine XS.iload X133.here hx rfl (hb hby at_180) rfl ?_
            refine XS.icmpNo X133.here hx rfl (hb hby at_182) rfl (XT.ii_ne_f (by decide)) ?_
            show oS p e below T133 (mkF m 185 #[iv p0, iv p1, iv p2, iv p3, iv p4, iv (own_n nn), rv b1, rv b3, iv (((own_n nn) - (1 : Int32))), iv 1, iv (own_n kq13), iv (own_n kq14), iv 1, iv 1, iv (own_n kq127), iv (own_n kq128), iv 0, iv 0, .unset, .unset, .unset, .unset, .unset, .unset, .unset, .unset] []) _
            refine XS.aload X133.here hx rfl (hb hby at_185) rfl rfl ?_
            refine st134 _ ?_
            refine XS.iload X134.here hx rfl (hb hby at_190) rfl ?_
            refine XS.icmpNo X134.here hx rfl (hb hby at_192) rfl (XT.ii_ne_f rfl) ?_
            refine XT.iconstV X134.here hx rfl (1 : Int32) (hb hby at_195) (by decide) ?_
            refine XS.goto X134.here hx rfl (pc0 := 196) (pc' := 200) rfl (hb hby at_196) (by decide) (by decide) ?_
            refine XS.istore X134.here hx rfl (hb hby at_200) rfl (l' := #[iv p0, iv p1, iv p2, iv p3, iv p4, iv (own_n nn), rv b1, rv b3, iv (((own_n nn) - (1 : Int32))), iv 1, iv (own_n kq13), iv (own_n kq14), iv 1, iv 1, iv (own_n kq127), iv (own_n kq128), iv 0, iv 0, .unset, .unset, .unset, .unset, .unset, .unset, .unset, .unset]) rfl ?_
            refine XS.iloadN X134.here hx rfl (hb hby at_202) rfl ?_
            show oS p e below T134 (mkF m 203 #[iv p0, iv p1, iv p2, iv p3, iv p4, iv (own_n nn), rv b1, rv b3, iv (((own_n nn) - (1 : Int32))), iv 1, iv (own_n kq13), iv (own_n kq14), iv 1, iv 1, iv (own_n kq127), iv (own_n kq128), iv 0, iv 0, .unset, .unset, .unset, .unset, .unset, .unset, .unset, .unset] [(.int p3)]) _
            refine XS.iload X134.here hx rfl (hb hby at_203) rfl ?_
            refine st136 _ ?_
            refine XS.istore X136.here hx rfl (hb hby at_208) rfl (l' := #[iv p0, iv p1, iv p2, iv p3, iv p4, iv (own_n nn), rv b1, rv b3, iv (((own_n nn) - (1 : Int32))), iv 1, iv (own_n kq13), iv (own_n kq14), iv 1, iv 1, iv (own_n kq127), iv (own_n kq128), iv 0, iv 0, iv (own_n kq136), .unset, .unset, .unset, .unset, .unset, .unset, .unset]) rfl ?_
            refine XS.iloadN X136.here hx rfl (hb hby at_210) rfl ?_
            refine XS.iload X136.here hx rfl (hb hby at_211) rfl ?_
            refine st137 _ ?_
            refine XS.istore X137.here hx rfl (hb hby at_216) rfl (l' := #[iv p0, iv p1, iv p2, iv p3, iv p4, iv (own_n nn), rv b1, rv b3, iv (((own_n nn) - (1 : Int32))), iv 1, iv (own_n kq13), iv (own_n kq14), iv 1, iv 1, iv (own_n kq127), iv (own_n kq128), iv 0, iv 0, iv (own_n kq136), iv (own_n kq137), .unset, .unset, .unset, .unset, .unset, .unset]) rfl ?_
            refine XS.aload X137.here hx rfl (hb hby at_218) rfl rfl ?_
            show oS p e below T137 (mkF m 220 #[iv p0, iv p1, iv p2, iv p3, iv p4, iv (own_n nn), rv b1, rv b3, iv (((own_n nn) - (1 : Int32))), iv 1, iv (own_n kq13), iv (own_n kq14), iv 1, iv 1, iv (own_n kq127), iv (own_n kq128), iv 0, iv 0, iv (own_n kq136), iv (own_n kq137), .unset, .unset, .unset, .unset, .unset, .unset] [(.ref b1)]) _
            refine XS.iload X137.here hx rfl (hb hby at_220) rfl ?_
            refine XS.iload X137.here hx rfl (hb hby at_222) rfl ?_
            refine st138 _ ?_
            refine XS.istore X138.here hx rfl (hb hby at_227) rfl (l' := #[iv p0, iv p1, iv p2, iv p3, iv p4, iv (own_n nn), rv b1, rv b3, iv (((own_n nn) - (1 : Int32))), iv 1, iv (own_n kq13), iv (own_n kq14), iv 1, iv 1, iv (own_n kq127), iv (own_n kq128), iv 0, iv 0, iv (own_n kq136), iv (own_n kq137), iv 0, .unset, .unset, .unset, .unset, .unset]) rfl ?_
            refine XS.aload X138.here hx rfl (hb hby at_229) rfl rfl ?_
            refine XS.iload X138.here hx rfl (hb hby at_231) rfl ?_
            refine XS.iload X138.here hx rfl (hb hby at_233) rfl ?_
            refine st140 _ ?_
            show oS p e below T140 (mkF m 238 #[iv p0, iv p1, iv p2, iv p3, iv p4, iv (own_n nn), rv b1, rv b3, iv (((own_n nn) - (1 : Int32))), iv 1, iv (own_n kq13), iv (own_n kq14), iv 1, iv 1, iv (own_n kq127), iv (own_n kq128), iv 0, iv 0, iv (own_n kq136), iv (own_n kq137), iv 0, .unset, .unset, .unset, .unset, .unset] [(.int 0)]) _
            refine XS.istore X140.here hx rfl (hb hby at_238) rfl (l' := #[iv p0, iv p1, iv p2, iv p3, iv p4, iv (own_n nn), rv b1, rv b3, iv (((own_n nn) - (1 : Int32))), iv 1, iv (own_n kq13), iv (own_n kq14), iv 1, iv 1, iv (own_n kq127), iv (own_n kq128), iv 0, iv 0, iv (own_n kq136), iv (own_n kq137), iv 0, iv 0, .unset, .unset, .unset, .unset]) rfl ?_
            refine XS.iload X140.here hx rfl (hb hby at_240) rfl ?_
            refine XS.ifYes X140.here hx rfl (pc0 := 242) (pc' := 251) rfl (hb hby at_242) rfl (XT.i0_eq_t (by decide)) (by decide) (by decide) ?_
            refine XS.iload X140.here hx rfl (hb hby at_251) rfl ?_
            refine XS.ifNo X140.here hx rfl (hb hby at_253) rfl (XT.i0_eq_f (by decide)) ?_
            refine XS.iload X140.here hx rfl (hb hby at_256) rfl ?_
            refine XS.iload X140.here hx rfl (hb hby at_258) rfl ?_
            refine XS.icmpNo X140.here hx rfl (hb hby at_260) rfl (XT.ii_ne_f (by decide)) ?_
            show oS p e below T140 (mkF m 263 #[iv p0, iv p1, iv p2, iv p3, iv p4, iv (own_n nn), rv b1, rv b3, iv (((own_n nn) - (1 : Int32))), iv 1, iv (own_n kq13), iv (own_n kq14), iv 1, iv 1, iv (own_n kq127), iv (own_n kq128), iv 0, iv 0, iv (own_n kq136), iv (own_n kq137), iv 0, iv 0, .unset, .unset, .unset, .unset] []) _
            refine XS.aload X140.here hx rfl (hb hby at_263) rfl rfl ?_
            refine st141 _ ?_
            refine XS.iload X141.here hx rfl (hb hby at_268) rfl ?_
            refine XS.icmpNo X141.here hx rfl (hb hby at_270) rfl (XT.ii_ne_f rfl) ?_
            refine XT.iconstV X141.here hx rfl (1 : Int32) (hb hby at_273) (by decide) ?_
            refine XS.goto X141.here hx rfl (pc0 := 274) (pc' := 278) rfl (hb hby at_274) (by decide) (by decide) ?_
            refine XS.istore X141.here hx rfl (hb hby at_278) rfl (l' := #[iv p0, iv p1, iv p2, iv p3, iv p4, iv (own_n nn), rv b1, rv b3, iv (((own_n nn) - (1 : Int32))), iv 1, iv (own_n kq13), iv (own_n kq14), iv 1, iv 1, iv (own_n kq127), iv (own_n kq128), iv 0, iv 0, iv (own_n kq136), iv (own_n kq137), iv 0, iv 0, .unset, .unset, .unset, .unset]) rfl ?_
            refine XS.iload X141.here hx rfl (hb hby at_280) rfl ?_
            show oS p e below T141 (mkF m 282 #[iv p0, iv p1, iv p2, iv p3, iv p4, iv (own_n nn), rv b1, rv b3, iv (((own_n nn) - (1 : Int32))), iv 1, iv (own_n kq13), iv (own_n kq14), iv 1, iv 1, iv (own_n kq127), iv (own_n kq128), iv 0, iv 0, iv (own_n kq136), iv (own_n kq137), iv 0, iv 0, .unset, .unset, .unset, .unset] [(.int p4)]) _
            refine XS.iload X141.here hx rfl (hb hby at_282) rfl ?_
            refine st143 _ ?_
            refine XS.istore X143.here hx rfl (hb hby at_287) rfl (l' := #[iv p0, iv p1, iv p2, iv p3, iv p4, iv (own_n nn), rv b1, rv b3, iv (((own_n nn) - (1 : Int32))), iv 1, iv (own_n kq13), iv (own_n kq14), iv 1, iv 1, iv (own_n kq127), iv (own_n kq128), iv 0, iv 0, iv (own_n kq136), iv (own_n kq137), iv 0, iv 0, iv (own_n kq143), .unset, .unset, .unset]) rfl ?_
            refine XS.iload X143.here hx rfl (hb hby at_289) rfl ?_
            refine XS.iload X143.here hx rfl (hb hby at_291) rfl ?_
            refine st144 _ ?_
            refine XS.istore X144.here hx rfl (hb hby at_296) rfl (l' := #[iv p0, iv p1, iv p2, iv p3, iv p4, iv (own_n nn), rv b1, rv b3, iv (((own_n nn) - (1 : Int32))), iv 1, iv (own_n kq13), iv (own_n kq14), iv 1, iv 1, iv (own_n kq127), iv (own_n kq128), iv 0, iv 0, iv (own_n kq136), iv (own_n kq137), iv 0, iv 0, iv (own_n kq143), iv (own_n kq144), .unset, .unset]) rfl ?_
            refine XS.aload X144.here hx rfl (hb hby at_298) rfl rfl ?_
            show oS p e below T144 (mkF m 300 #[iv p0, iv p1, iv p2, iv p3, iv p4, iv (own_n nn), rv b1, rv b3, iv (((own_n nn) - (1 : Int32))), iv 1, iv (own_n kq13), iv (own_n kq14), iv 1, iv 1, iv (own_n kq127), iv (own_n kq128), iv 0, iv 0, iv (own_n kq136), iv (own_n kq137), iv 0, iv 0, iv (own_n kq143), iv (own_n kq144), .unset, .unset] [(.ref b1)]) _
            refine XS.iload X144.here hx rfl (hb hby at_300) rfl ?_
            refine XS.iload X144.here hx rfl (hb hby at_302) rfl ?_
            refine st145 _ ?_
            refine XS.istore X145.here hx rfl (hb hby at_307) rfl (l' := #[iv p0, iv p1, iv p2, iv p3, iv p4, iv (own_n nn), rv b1, rv b3, iv (((own_n nn) - (1 : Int32))), iv 1, iv (own_n kq13), iv (own_n kq14), iv 1, iv 1, iv (own_n kq127), iv (own_n kq128), iv 0, iv 0, iv (own_n kq136), iv (own_n kq137), iv 0, iv 0, iv (own_n kq143), iv (own_n kq144), iv 1, .unset]) rfl ?_
            refine XS.aload X145.here hx rfl (hb hby at_309) rfl rfl ?_
            refine XS.iload X145.here hx rfl (hb hby at_311) rfl ?_
            refine XS.iload X145.here hx rfl (hb hby at_313) rfl ?_
            refine st152 _ ?_
            show oS p e below T152 (mkF m 318 #[iv p0, iv p1, iv p2, iv p3, iv p4, iv (own_n nn), rv b1, rv b3, iv (((own_n nn) - (1 : Int32))), iv 1, iv (own_n kq13), iv (own_n kq14), iv 1, iv 1, iv (own_n kq127), iv (own_n kq128), iv 0, iv 0, iv (own_n kq136), iv (own_n kq137), iv 0, iv 0, iv (own_n kq143), iv (own_n kq144), iv 1, .unset] [(.int 1)]) _
            refine XS.istore X152.here hx rfl (hb hby at_318) rfl (l' := #[iv p0, iv p1, iv p2, iv p3, iv p4, iv (own_n nn), rv b1, rv b3, iv (((own_n nn) - (1 : Int32))), iv 1, iv (own_n kq13), iv (own_n kq14), iv 1, iv 1, iv (own_n kq127), iv (own_n kq128), iv 0, iv 0, iv (own_n kq136), iv (own_n kq137), iv 0, iv 0, iv (own_n kq143), iv (own_n kq144), iv 1, iv 1]) rfl ?_
            refine XS.iload X152.here hx rfl (hb hby at_320) rfl ?_
            refine XS.ifNo X152.here hx rfl (hb hby at_322) rfl (XT.i0_eq_f (by decide)) ?_
            refine XS.iload X152.here hx rfl (hb hby at_325) rfl ?_
            refine XT.iconstV X152.here hx rfl (1 : Int32) (hb hby at_327) (by decide) ?_
            refine XS.isub X152.here hx rfl (hb hby at_328) rfl ?_
            refine XS.istore X152.here hx rfl (hb hby at_329) rfl (l' := #[iv p0, iv p1, iv p2, iv p3, iv p4, iv (own_n nn), rv b1, rv b3, iv ((((own_n nn) - (1 : Int32)) - (1 : Int32))), iv 1, iv (own_n kq13), iv (own_n kq14), iv 1, iv 1, iv (own_n kq127), iv (own_n kq128), iv 0, iv 0, iv (own_n kq136), iv (own_n kq137), iv 0, iv 0, iv (own_n kq143), iv (own_n kq144), iv 1, iv 1]) rfl ?_
            refine XS.iload X152.here hx rfl (hb hby at_331) rfl ?_
            show oS p e below T152 (mkF m 333 #[iv p0, iv p1, iv p2, iv p3, iv p4, iv (own_n nn), rv b1, rv b3, iv ((((own_n nn) - (1 : Int32)) - (1 : Int32))), iv 1, iv (own_n kq13), iv (own_n kq14), iv 1, iv 1, iv (own_n kq127), iv (own_n kq128), iv 0, iv 0, iv (own_n kq136), iv (own_n kq137), iv 0, iv 0, iv (own_n kq143), iv (own_n kq144), iv 1, iv 1] [(.int 1)]) _
            refine XS.ifNo X152.here hx rfl (hb hby at_333) rfl (XT.i0_eq_f (by decide)) ?_
            refine XS.iload X152.here hx rfl (hb hby at_336) rfl ?_
            refine XS.iload X152.here hx rfl (hb hby at_338) rfl ?_
            refine XS.icmpNo X152.here hx rfl (hb hby at_340) rfl (XT.ii_ne_f (by decide)) ?_
            refine XS.aload X152.here hx rfl (hb hby at_343) rfl rfl ?_
            refine st154 _ ?_
            refine XS.iload X154.here hx rfl (hb hby at_348) rfl ?_
            refine XS.icmpNo X154.here hx rfl (hb hby at_350) rfl (XT.ii_ne_f rfl) ?_
            show oS p e below T154 (mkF m 353 #[iv p0, iv p1, iv p2, iv p3, iv p4, iv (own_n nn), rv b1, rv b3, iv ((((own_n nn) - (1 : Int32)) - (1 : Int32))), iv 1, iv (own_n kq13), iv (own_n kq14), iv 1, iv 1, iv (own_n kq127), iv (own_n kq128), iv 0, iv 0, iv (own_n kq136), iv (own_n kq137), iv 0, iv 0, iv (own_n kq143), iv (own_n kq144), iv 1, iv 1] []) _
            refine XT.iconstV X154.here hx rfl (1 : Int32) (hb hby at_353) (by decide) ?_
            refine XS.goto X154.here hx rfl (pc0 := 354) (pc' := 358) rfl (hb hby at_354) (by decide) (by decide) ?_
            refine XS.istore X154.here hx rfl (hb hby at_358) rfl (l' := #[iv p0, iv p1, iv p2, iv p3, iv p4, iv (own_n nn), rv b1, rv b3, iv ((((own_n nn) - (1 : Int32)) - (1 : Int32))), iv 1, iv (own_n kq13), iv (own_n kq14), iv 1, iv 1, iv (own_n kq127), iv (own_n kq128), iv 0, iv 0, iv (own_n kq136), iv (own_n kq137), iv 0, iv 0, iv (own_n kq143), iv (own_n kq144), iv 1, iv 1]) rfl ?_
            refine XS.iload X154.here hx rfl (hb hby at_360) rfl ?_
            exact kz)
          obtain ⟨fs, hr, hrun, hended, hW, hsame⟩ := X154.leave (v := some (.int 1)) (fun h => by rw [Bd.returns] at h; cases h)
          refine ⟨_, _, pre0 _ (S156 _ ?_), hrun, hended, _, _, rfl, ?_, ⟨_, rfl⟩, hW, hsame.mono (by decide) (by decide)⟩
          · exact retN X154 hx (t := .boolean) Bd.returns (by simp) (hb hby at_362) hr
          · show Qrm0s Z p0 p1 p2 p3 p4 nn h0 n0 _ T154.heap _
            rw [e154]
            exact ⟨rfl, N154⟩
      · have N138 := Fr.app N137 N138q
        have e138 : T138.heap = T138.heap := rfl
        have Zk138 : n0 ≤ T138.heap.size := Nat.le_trans Zk131 K138.1
        have Kk138 : Keep h0 T138.heap [] := Kk131.trans K138 (allS (Or.inr sz_b1) (allS (Or.inr sz_b2') all0))
        have f157 := (f132.keep K138 (ninS (Ne.symm ne_b1_b3) (ninS (Ne.symm ne_b2'_b3) nin0)))
        obtain ⟨_, T158, Lc158, X158, hQ158, st158⟩ := own_callS (W := 0) (y := mN5) X138 hx hZ hown (hw _ (own_w 30 rfl)) (hw _ (own_w 31 rfl)) (hw _ (own_w 16 rfl)) (hw _ (own_w 32 rfl)) (by decide) (rmRef1 l Z av0 hw [] b3 k3 (own_L own_n (own_n kq13) (own_n kq14)) kq136 kq137 T138.heap n0 Zk138 f157 (Nat.lt_of_lt_of_le lq136 hnn) (Nat.lt_of_lt_of_le lq137 hnn) ge_b3 (fun q => rs138 ((RL123 _ lq136 _ lq137).mpr q))) (by decide) (by decide) (g := (mkF m 235 #[iv p0, iv p1, iv p2, iv p3, iv p4, iv (own_n nn), rv b1, rv b3, iv (((own_n nn) - (1 : Int32))), iv 1, iv (own_n kq13), iv (own_n kq14), iv 1, iv 1, iv (own_n kq127), iv (own_n kq128), iv 0, iv 0, iv (own_n kq136), iv (own_n kq137), iv 1, .unset, .unset, .unset, .unset, .unset] [(.int (own_n kq137)), (.int (own_n kq136)), (.ref b3)])) rfl (by rw [hml]; rfl) (argsL := [(.ref b3), (.int (own_n kq136)), (.int (own_n kq137))]) (rest := []) (lenOf pd__III_Z rfl) rfl (hb hby at_235) rfl e138 (by decide : 3 + 0 ≤ _) (by decide : 10 + 0 ≤ _)
        obtain ⟨rfl, N158q, K158, B158⟩ := hQ158
        have N158 := Fr.app N138 N158q
        have e158 : T158.heap = T158.heap := rfl
        have Zk158 : n0 ≤ T158.heap.size := Nat.le_trans Zk138 K158.1
        have Kk158 : Keep h0 T158.heap [] := Kk138.trans K158 (allS (Or.inr sz_b3) all0)
        have RL158 := own_RL RL123 lq136 lq137
        have f159 := (C138.keep K158 (ninS ne_b1_b3 nin0))
        have f161 := ((f135.keep K138).keep K158)
        obtain ⟨_, T160, Lc160, X160, hQ160, st160⟩ := own_virtual (W := 0) (y := mN0) (z := mN0) X158 hx hZ hown (hw _ (own_w 33 rfl)) (hw _ (own_w 34 rfl)) (notFace_of_selects (args := #[]) (mvT hZ (hw _ (own_w 36 rfl)))) (hw _ (own_w 36 rfl)) (hw _ (own_w 35 rfl)) (hw _ (own_w 37 rfl)) (hw _ (own_w 2 rfl)) (by decide) (rmCount l Z av0 hw [] b1 (((own_n nn) - (1 : Int32)) - (1 : Int32)) T158.heap n0 Zk158 f159) (by decide) (by decide) f161 (g := (mkF m 265 #[iv p0, iv p1, iv p2, iv p3, iv p4, iv (own_n nn), rv b1, rv b3, iv ((((own_n nn) - (1 : Int32)) - (1 : Int32))), iv 1, iv (own_n kq13), iv (own_n kq14), iv 1, iv 1, iv (own_n kq127), iv (own_n kq128), iv 0, iv 0, iv (own_n kq136), iv (own_n kq137), iv 1, iv 1, .unset, .unset, .unset, .unset] [(.ref b1)])) rfl (by rw [hml]; rfl) (argsL := []) (rest := []) (lenOf pd__I rfl) rfl (hb hby at_265) rfl e158 (by decide : 3 + 0 ≤ _) (by decide : 10 + 0 ≤ _)
        obtain ⟨rfl, N160q, hh160⟩ := hQ160
        have N160 := Fr.app N158 N160q
        have e160 : T160.heap = T158.heap := hh160
        obtain ⟨_, T162, Lc162, X162, hQ162, st162⟩ := own_callS (W := 0) (y := mN1) X160 hx hZ hown (hw _ (own_w 14 rfl)) (hw _ (own_w 15 rfl)) (hw _ (own_w 16 rfl)) (hw _ (own_w 17 rfl)) (by decide) (rmFirst l Z av0 hw [] p4 nn T158.heap n0 Zk158 hone hnn) (by decide) (by decide) (g := (mkF m 284 #[iv p0, iv p1, iv p2, iv p3, iv p4, iv (own_n nn), rv b1, rv b3, iv ((((own_n nn) - (1 : Int32)) - (1 : Int32))), iv 1, iv (own_n kq13), iv (own_n kq14), iv 1, iv 1, iv (own_n kq127), iv (own_n kq128), iv 0, iv 0, iv (own_n kq136), iv (own_n kq137), iv 1, iv 1, .unset, .unset, .unset, .unset] [(.int (own_n nn)), (.int p4)])) rfl (by rw [hml]; rfl) (argsL := [(.int p4), (.int (own_n nn))]) (rest := []) (lenOf pd__II_I rfl) rfl (hb hby at_284) rfl e160 (by decide : 3 + 0 ≤ _) (by decide : 10 + 0 ≤ _)
        obtain ⟨kq162, lq162, rfl, N162q, hh162⟩ := hQ162
        have N162 := Fr.app N160 N162q
        have e162 : T162.heap = T158.heap := hh162
        obtain ⟨_, T163, Lc163, X163, hQ163, st163⟩ := own_callS (W := 0) (y := mN2) X162 hx hZ hown (hw _ (own_w 18 rfl)) (hw _ (own_w 19 rfl)) (hw _ (own_w 16 rfl)) (hw _ (own_w 20 rfl)) (by decide) (rmSecond l Z av0 hw [] p4 nn T158.heap n0 Zk158 hone hnn) (by decide) (by decide) (g := (mkF m 293 #[iv p0, iv p1, iv p2, iv p3, iv p4, iv (own_n nn), rv b1, rv b3, iv ((((own_n nn) - (1 : Int32)) - (1 : Int32))), iv 1, iv (own_n kq13), iv (own_n kq14), iv 1, iv 1, iv (own_n kq127), iv (own_n kq128), iv 0, iv 0, iv (own_n kq136), iv (own_n kq137), iv 1, iv 1, iv (own_n kq162), .unset, .unset, .unset] [(.int (own_n nn)), (.int p4)])) rfl (by rw [hml]; rfl) (argsL := [(.int p4), (.int (own_n nn))]) (rest := []) (lenOf pd__II_I rfl) rfl (hb hby at_293) rfl e162 (by decide : 3 + 0 ≤ _) (by decide : 10 + 0 ≤ _)
        obtain ⟨kq163, lq163, rfl, N163q, hh163⟩ := hQ163
        have N163 := Fr.app N162 N163q
        have e163 : T163.heap = T158.heap := hh163
        have f164 := (P138.keep K158 (ninS ne_b1_b3 nin0))
        have f165 := (A138.keep K158 (ninS ne_b2'_b3 nin0))
        obtain ⟨_, T166, Lc166, X166, hQ166, st166⟩ := own_virtual (W := 0) (y := mN4) (z := mN4) X163 hx hZ hown (hw _ (own_w 21 rfl)) (hw _ (own_w 22 rfl)) (notFace_of_selects (args := #[]) (mvT hZ (hw _ (own_w 24 rfl)))) (hw _ (own_w 24 rfl)) (hw _ (own_w 23 rfl)) (hw _ (own_w 25 rfl)) (hw _ (own_w 2 rfl)) (by decide) (rmJoin l Z av0 hw [] b1 b2' k2' nn f138' (own_R (own_R (fun i => i) ((fun i => i) kq13) ((fun i => i) kq14)) ((own_R (fun i => i) ((fun i => i) kq13) ((fun i => i) kq14)) kq136) ((own_R (fun i => i) ((fun i => i) kq13) ((fun i => i) kq14)) kq137)) d138' kq162 kq163 (((own_n nn) - (1 : Int32)) - (1 : Int32)) T158.heap n0 Zk158 hnn f161 f164 f159 f165 I138 lq162 lq163 ge_b1 ge_b2' ne_b1_b2') (by decide) (by decide) f161 (g := (mkF m 304 #[iv p0, iv p1, iv p2, iv p3, iv p4, iv (own_n nn), rv b1, rv b3, iv ((((own_n nn) - (1 : Int32)) - (1 : Int32))), iv 1, iv (own_n kq13), iv (own_n kq14), iv 1, iv 1, iv (own_n kq127), iv (own_n kq128), iv 0, iv 0, iv (own_n kq136), iv (own_n kq137), iv 1, iv 1, iv (own_n kq162), iv (own_n kq163), .unset, .unset] [(.int (own_n kq163)), (.int (own_n kq162)), (.ref b1)])) rfl (by rw [hml]; rfl) (argsL := [(.int (own_n kq162)), (.int (own_n kq163))]) (rest := []) (lenOf pd__II_Z rfl) rfl (hb hby at_304) rfl e163 (by decide : 3 + 0 ≤ _) (by decide : 10 + 0 ≤ _)
        rcases hQ166 with ⟨rfl, N166q, rs166, K166, P166, C166, f166', A166, I166⟩ | ⟨rfl, N166q, rs166, K166, P166, C166, f166', d166', A166, I166⟩
        · have N166 := Fr.app N163 N166q
          have e166 : T166.heap = T166.heap := rfl
          have Zk166 : n0 ≤ T166.heap.size := Nat.le_trans Zk158 K166.1
          have Kk166 : Keep h0 T166.heap [] := Kk158.trans K166 (allS (Or.inr sz_b1) (allS (Or.inr sz_b2') all0))
          have f167 := (B158.keep K166 (ninS (Ne.symm ne_b1_b3) (ninS (Ne.symm ne_b2'_b3) nin0)))
          obtain ⟨_, T168, Lc168, X168, hQ168, st168⟩ := own_callS (W := 0) (y := mN5) X166 hx hZ hown (hw _ (own_w 30 rfl)) (hw _ (own_w 31 rfl)) (hw _ (own_w 16 rfl)) (hw _ (own_w 32 rfl)) (by decide) (rmRef0 l Z av0 hw [] b3 k3 (own_L (own_L own_n (own_n kq13) (own_n kq14)) ((own_L own_n (own_n kq13) (own_n kq14)) kq136) ((own_L own_n (own_n kq13) (own_n kq14)) kq137)) kq162 kq163 T166.heap n0 Zk166 f167 (Nat.lt_of_lt_of_le lq162 hnn) (Nat.lt_of_lt_of_le lq163 hnn) ge_b3 ((RL158 _ lq162 _ lq163).mp rs166)) (by decide) (by decide) (g := (mkF m 315 #[iv p0, iv p1, iv p2, iv p3, iv p4, iv (own_n nn), rv b1, rv b3, iv ((((own_n nn) - (1 : Int32)) - (1 : Int32))), iv 1, iv (own_n kq13), iv (own_n kq14), iv 1, iv 1, iv (own_n kq127), iv (own_n kq128), iv 0, iv 0, iv (own_n kq136), iv (own_n kq137), iv 1, iv 1, iv (own_n kq162), iv (own_n kq163), iv 0, .unset] [(.int (own_n kq163)), (.int (own_n kq162)), (.ref b3)])) rfl (by rw [hml]; rfl) (argsL := [(.ref b3), (.int (own_n kq162)), (.int (own_n kq163))]) (rest := []) (lenOf pd__III_Z rfl) rfl (hb hby at_315) rfl e166 (by decide : 3 + 0 ≤ _) (by decide : 10 + 0 ≤ _)
          obtain ⟨rfl, N168q, hh168⟩ := hQ168
          have N168 := Fr.app N166 N168q
          have e168 : T168.heap = T166.heap := hh168
          have f170 := (f161.keep K166)
          obtain ⟨_, T169, Lc169, X169, hQ169, st169⟩ := own_virtual (W := 0) (y := mN0) (z := mN0) X168 hx hZ hown (hw _ (own_w 33 rfl)) (hw _ (own_w 34 rfl)) (notFace_of_selects (args := #[]) (mvT hZ (hw _ (own_w 36 rfl)))) (hw _ (own_w 36 rfl)) (hw _ (own_w 35 rfl)) (hw _ (own_w 37 rfl)) (hw _ (own_w 2 rfl)) (by decide) (rmCount l Z av0 hw [] b1 (((own_n nn) - (1 : Int32)) - (1 : Int32)) T166.heap n0 Zk166 C166) (by decide) (by decide) f170 (g := (mkF m 345 #[iv p0, iv p1, iv p2, iv p3, iv p4, iv (own_n nn), rv b1, rv b3, iv ((((own_n nn) - (1 : Int32)) - (1 : Int32))), iv 1, iv (own_n kq13), iv (own_n kq14), iv 1, iv 1, iv (own_n kq127), iv (own_n kq128), iv 0, iv 0, iv (own_n kq136), iv (own_n kq137), iv 1, iv 1, iv (own_n kq162), iv (own_n kq163), iv 0, iv 0] [(.ref b1)])) rfl (by rw [hml]; rfl) (argsL := []) (rest := []) (lenOf pd__I rfl) rfl (hb hby at_345) rfl e168 (by decide : 3 + 0 ≤ _) (by decide : 10 + 0 ≤ _)
          obtain ⟨rfl, N169q, hh169⟩ := hQ169
          have N169 := Fr.app N168 N169q
          have e169 : T169.heap = T166.heap := hh169
          have S171 : ∀ tz, oS p e below T169 (mkF m 362 #[iv p0, iv p1, iv p2, iv p3, iv p4, iv (own_n nn), rv b1, rv b3, iv ((((own_n nn) - (1 : Int32)) - (1 : Int32))), iv 1, iv (own_n kq13), iv (own_n kq14), iv 1, iv 1, iv (own_n kq127), iv (own_n kq128), iv 0, iv 0, iv (own_n kq136), iv (own_n kq137), iv 1, iv 1, iv (own_n kq162), iv (own_n kq163), iv 0, iv 0] [(.int 1)]) tz → oS p e below s₁ (mkF m 0 #[iv p0, iv p1, iv p2, iv p3, iv p4, .unset, .unset, .unset, .unset, .unset, .unset, .unset, .unset, .unset, .unset, .unset, .unset, .unset, .unset, .unset, .unset, .unset, .unset, .unset, .unset, .unset] []) tz := fun tz kz => id (by
            show oS p e below s₁ (mkF m 0 #[iv p0, iv p1, iv p2, iv p3, iv p4, .unset, .unset, .unset, .unset, .unset, .unset, .unset, .unset, .unset, .unset, .unset, .unset, .unset, .unset, .unset, .unset, .unset, .unset, .unset, .unset, .unset] []) _
            refine XT.iconstV X0.here hx rfl (1 : Int32) (hb hby at_0) (by decide) ?_
            refine XS.iloadN X0.here hx rfl (hb hby at_1) rfl ?_
            refine XT.iconstV X0.here hx rfl (3 : Int32) (hb hby at_2) (by decide) ?_
            refine XS.iand X0.here hx rfl (hb hby at_3) rfl ?_
            refine XS.iadd X0.here hx rfl (hb hby at_4) rfl ?_
            show oS p e below s₁ (mkF m 5 #[iv p0, iv p1, iv p2, iv p3, iv p4, .unset, .unset, .unset, .unset, .unset, .unset, .unset, .unset, .unset, .unset, .unset, .unset, .unset, .unset, .unset, .unset, .unset, .unset, .unset, .unset, .unset] [(.int ((1 : Int32) + (p0 &&& (3 : Int32))))]) _
            rw [hn]
            show oS p e below s₁ (mkF m 5 #[iv p0, iv p1, iv p2, iv p3, iv p4, .unset, .unset, .unset, .unset, .unset, .unset, .unset, .unset, .unset, .unset, .unset, .unset, .unset, .unset, .unset, .unset, .unset, .unset, .unset, .unset, .unset] [(.int (own_n nn))]) _
            refine XS.istore X0.here hx rfl (hb hby at_5) rfl (l' := #[iv p0, iv p1, iv p2, iv p3, iv p4, iv (own_n nn), .unset, .unset, .unset, .unset, .unset, .unset, .unset, .unset, .unset, .unset, .unset, .unset, .unset, .unset, .unset, .unset, .unset, .unset, .unset, .unset]) rfl ?_
            refine st1 _ ?_
            show oS p e below T1 (mkF m 10 #[iv p0, iv p1, iv p2, iv p3, iv p4, iv (own_n nn), .unset, .unset, .unset, .unset, .unset, .unset, .unset, .unset, .unset, .unset, .unset, .unset, .unset, .unset, .unset, .unset, .unset, .unset, .unset, .unset] [(.ref b1)]) _
            refine XS.dup X1.here hx rfl (hb hby at_10) rfl rfl ?_
            refine XS.iload X1.here hx rfl (hb hby at_11) rfl ?_
            refine st2 _ ?_
            refine XS.astore X2.here hx rfl (hb hby at_16) rfl rfl (l' := #[iv p0, iv p1, iv p2, iv p3, iv p4, iv (own_n nn), rv b1, .unset, .unset, .unset, .unset, .unset, .unset, .unset, .unset, .unset, .unset, .unset, .unset, .unset, .unset, .unset, .unset, .unset, .unset, .unset]) rfl ?_
            refine XT.iconstV X2.here hx rfl (4 : Int32) (hb hby at_18) (by decide) ?_
            refine st3 _ ?_
            refine XS.dup X3.here hx rfl (hb hby at_21) rfl rfl ?_
            refine XT.iconstV X3.here hx rfl (0 : Int32) (hb hby at_22) (by decide) ?_
            show oS p e below T3 (mkF m 23 #[iv p0, iv p1, iv p2, iv p3, iv p4, iv (own_n nn), rv b1, .unset, .unset, .unset, .unset, .unset, .unset, .unset, .unset, .unset, .unset, .unset, .unset, .unset, .unset, .unset, .unset, .unset, .unset, .unset] [(.int 0), (.ref b3), (.ref b3)]) _
            refine XT.iconstV X3.here hx rfl (0 : Int32) (hb hby at_23) (by decide) ?_
            refine st6 _ ?_
            refine XS.dup X6.here hx rfl (hb hby at_25) rfl rfl ?_
            refine XT.iconstV X6.here hx rfl (1 : Int32) (hb hby at_26) (by decide) ?_
            refine XT.iconstV X6.here hx rfl (1 : Int32) (hb hby at_27) (by decide) ?_
            refine st8 _ ?_
            refine XS.dup X8.here hx rfl (hb hby at_29) rfl rfl ?_
            refine XT.iconstV X8.here hx rfl (2 : Int32) (hb hby at_30) (by decide) ?_
            show oS p e below T8 (mkF m 31 #[iv p0, iv p1, iv p2, iv p3, iv p4, iv (own_n nn), rv b1, .unset, .unset, .unset, .unset, .unset, .unset, .unset, .unset, .unset, .unset, .unset, .unset, .unset, .unset, .unset, .unset, .unset, .unset, .unset] [(.int 2), (.ref b3), (.ref b3)]) _
            refine XT.iconstV X8.here hx rfl (2 : Int32) (hb hby at_31) (by decide) ?_
            refine st10 _ ?_
            refine XS.dup X10.here hx rfl (hb hby at_33) rfl rfl ?_
            refine XT.iconstV X10.here hx rfl (3 : Int32) (hb hby at_34) (by decide) ?_
            refine XT.iconstV X10.here hx rfl (3 : Int32) (hb hby at_35) (by decide) ?_
            refine st12 _ ?_
            refine XS.astore X12.here hx rfl (hb hby at_37) rfl rfl (l' := #[iv p0, iv p1, iv p2, iv p3, iv p4, iv (own_n nn), rv b1, rv b3, .unset, .unset, .unset, .unset, .unset, .unset, .unset, .unset, .unset, .unset, .unset, .unset, .unset, .unset, .unset, .unset, .unset, .unset]) rfl ?_
            refine XS.iload X12.here hx rfl (hb hby at_39) rfl ?_
            show oS p e below T12 (mkF m 41 #[iv p0, iv p1, iv p2, iv p3, iv p4, iv (own_n nn), rv b1, rv b3, .unset, .unset, .unset, .unset, .unset, .unset, .unset, .unset, .unset, .unset, .unset, .unset, .unset, .unset, .unset, .unset, .unset, .unset] [(.int (own_n nn))]) _
            refine XS.istore X12.here hx rfl (hb hby at_41) rfl (l' := #[iv p0, iv p1, iv p2, iv p3, iv p4, iv (own_n nn), rv b1, rv b3, iv (own_n nn), .unset, .unset, .unset, .unset, .unset, .unset, .unset, .unset, .unset, .unset, .unset, .unset, .unset, .unset, .unset, .unset, .unset]) rfl ?_
            refine XT.iconstV X12.here hx rfl (1 : Int32) (hb hby at_43) (by decide) ?_
            refine XS.istore X12.here hx rfl (hb hby at_44) rfl (l' := #[iv p0, iv p1, iv p2, iv p3, iv p4, iv (own_n nn), rv b1, rv b3, iv (own_n nn), iv 1, .unset, .unset, .unset, .unset, .unset, .unset, .unset, .unset, .unset, .unset, .unset, .unset, .unset, .unset, .unset, .unset]) rfl ?_
            refine XS.iloadN X12.here hx rfl (hb hby at_46) rfl ?_
            refine XS.iload X12.here hx rfl (hb hby at_47) rfl ?_
            refine st13 _ ?_
            refine XS.istore X13.here hx rfl (hb hby at_52) rfl (l' := #[iv p0, iv p1, iv p2, iv p3, iv p4, iv (own_n nn), rv b1, rv b3, iv (own_n nn), iv 1, iv (own_n kq13), .unset, .unset, .unset, .unset, .unset, .unset, .unset, .unset, .unset, .unset, .unset, .unset, .unset, .unset, .unset]) rfl ?_
            refine XS.iloadN X13.here hx rfl (hb hby at_54) rfl ?_
            show oS p e below T13 (mkF m 55 #[iv p0, iv p1, iv p2, iv p3, iv p4, iv (own_n nn), rv b1, rv b3, iv (own_n nn), iv 1, iv (own_n kq13), .unset, .unset, .unset, .unset, .unset, .unset, .unset, .unset, .unset, .unset, .unset, .unset, .unset, .unset, .unset] [(.int p1)]) _
            refine XS.iload X13.here hx rfl (hb hby at_55) rfl ?_
            refine st14 _ ?_
            refine XS.istore X14.here hx rfl (hb hby at_60) rfl (l' := #[iv p0, iv p1, iv p2, iv p3, iv p4, iv (own_n nn), rv b1, rv b3, iv (own_n nn), iv 1, iv (own_n kq13), iv (own_n kq14), .unset, .unset, .unset, .unset, .unset, .unset, .unset, .unset, .unset, .unset, .unset, .unset, .unset, .unset]) rfl ?_
            refine XS.aload X14.here hx rfl (hb hby at_62) rfl rfl ?_
            refine XS.iload X14.here hx rfl (hb hby at_64) rfl ?_
            refine XS.iload X14.here hx rfl (hb hby at_66) rfl ?_
            refine st19 _ ?_
            refine XS.istore X19.here hx rfl (hb hby at_71) rfl (l' := #[iv p0, iv p1, iv p2, iv p3, iv p4, iv (own_n nn), rv b1, rv b3, iv (own_n nn), iv 1, iv (own_n kq13), iv (own_n kq14), iv 1, .unset, .unset, .unset, .unset, .unset, .unset, .unset, .unset, .unset, .unset, .unset, .unset, .unset]) rfl ?_
            show oS p e below T19 (mkF m 73 #[iv p0, iv p1, iv p2, iv p3, iv p4, iv (own_n nn), rv b1, rv b3, iv (own_n nn), iv 1, iv (own_n kq13), iv (own_n kq14), iv 1, .unset, .unset, .unset, .unset, .unset, .unset, .unset, .unset, .unset, .unset, .unset, .unset, .unset] []) _
            refine XS.aload X19.here hx rfl (hb hby at_73) rfl rfl ?_
            refine XS.iload X19.here hx rfl (hb hby at_75) rfl ?_
            refine XS.iload X19.here hx rfl (hb hby at_77) rfl ?_
            refine st123 _ ?_
            refine XS.istore X123.here hx rfl (hb hby at_82) rfl (l' := #[iv p0, iv p1, iv p2, iv p3, iv p4, iv (own_n nn), rv b1, rv b3, iv (own_n nn), iv 1, iv (own_n kq13), iv (own_n kq14), iv 1, iv 1, .unset, .unset, .unset, .unset, .unset, .unset, .unset, .unset, .unset, .unset, .unset, .unset]) rfl ?_
            refine XS.iload X123.here hx rfl (hb hby at_84) rfl ?_
            refine XS.ifNo X123.here hx rfl (hb hby at_86) rfl (XT.i0_eq_f (by decide)) ?_
            refine XS.iload X123.here hx rfl (hb hby at_89) rfl ?_
            show oS p e below T123 (mkF m 91 #[iv p0, iv p1, iv p2, iv p3, iv p4, iv (own_n nn), rv b1, rv b3, iv (own_n nn), iv 1, iv (own_n kq13), iv (own_n kq14), iv 1, iv 1, .unset, .unset, .unset, .unset, .unset, .unset, .unset, .unset, .unset, .unset, .unset, .unset] [(.int (own_n nn))]) _
            refine XT.iconstV X123.here hx rfl (1 : Int32) (hb hby at_91) (by decide) ?_
            refine XS.isub X123.here hx rfl (hb hby at_92) rfl ?_
            refine XS.istore X123.here hx rfl (hb hby at_93) rfl (l' := #[iv p0, iv p1, iv p2, iv p3, iv p4, iv (own_n nn), rv b1, rv b3, iv (((own_n nn) - (1 : Int32))), iv 1, iv (own_n kq13), iv (own_n kq14), iv 1, iv 1, .unset, .unset, .unset, .unset, .unset, .unset, .unset, .unset, .unset, .unset, .unset, .unset]) rfl ?_
            refine XS.iload X123.here hx rfl (hb hby at_95) rfl ?_
            refine XS.ifNo X123.here hx rfl (hb hby at_97) rfl (XT.i0_eq_f (by decide)) ?_
            refine XS.iload X123.here hx rfl (hb hby at_100) rfl ?_
            refine XS.iload X123.here hx rfl (hb hby at_102) rfl ?_
            refine XS.icmpNo X123.here hx rfl (hb hby at_104) rfl (XT.ii_ne_f (by decide)) ?_
            show oS p e below T123 (mkF m 107 #[iv p0, iv p1, iv p2, iv p3, iv p4, iv (own_n nn), rv b1, rv b3, iv (((own_n nn) - (1 : Int32))), iv 1, iv (own_n kq13), iv (own_n kq14), iv 1, iv 1, .unset, .unset, .unset, .unset, .unset, .unset, .unset, .unset, .unset, .unset, .unset, .unset] []) _
            refine XS.aload X123.here hx rfl (hb hby at_107) rfl rfl ?_
            refine st125 _ ?_
            refine XS.iload X125.here hx rfl (hb hby at_112) rfl ?_
            refine XS.icmpNo X125.here hx rfl (hb hby at_114) rfl (XT.ii_ne_f rfl) ?_
            refine XT.iconstV X125.here hx rfl (1 : Int32) (hb hby at_117) (by decide) ?_
            refine XS.goto X125.here hx rfl (pc0 := 118) (pc' := 122) rfl (hb hby at_118) (by decide) (by decide) ?_
            refine XS.istore X125.here hx rfl (hb hby at_122) rfl (l' := #[iv p0, iv p1, iv p2, iv p3, iv p4, iv (own_n nn), rv b1, rv b3, iv (((own_n nn) - (1 : Int32))), iv 1, iv (own_n kq13), iv (own_n kq14), iv 1, iv 1, .unset, .unset, .unset, .unset, .unset, .unset, .unset, .unset, .unset, .unset, .unset, .unset]) rfl ?_
            refine XS.iloadN X125.here hx rfl (hb hby at_124) rfl ?_
            show oS p e below T125 (mkF m 125 #[iv p0, iv p1, iv p2, iv p3, iv p4, iv (own_n nn), rv b1, rv b3, iv (((own_n nn) - (1 : Int32))), iv 1, iv (own_n kq13), iv (own_n kq14), iv 1, iv 1, .unset, .unset, .unset, .unset, .unset, .unset, .unset, .unset, .unset, .unset, .unset, .unset] [(.int p2)]) _
            refine XS.iload X125.here hx rfl (hb hby at_125) rfl ?_
            refine st127 _ ?_
            refine XS.istore X127.here hx rfl (hb hby at_130) rfl (l' := #[iv p0, iv p1, iv p2, iv p3, iv p4, iv (own_n nn), rv b1, rv b3, iv (((own_n nn) - (1 : Int32))), iv 1, iv (own_n kq13), iv (own_n kq14), iv 1, iv 1, iv (own_n kq127), .unset, .unset, .unset, .unset, .unset, .unset, .unset, .unset, .unset, .unset, .unset]) rfl ?_
            refine XS.iloadN X127.here hx rfl (hb hby at_132) rfl ?_
            refine XS.iload X127.here hx rfl (hb hby at_133) rfl ?_
            refine st128 _ ?_
            refine XS.istore X128.here hx rfl (hb hby at_138) rfl (l' := #[iv p0, iv p1, iv p2, iv p3, iv p4, iv (own_n nn), rv b1, rv b3, iv (((own_n nn) - (1 : Int32))), iv 1, iv (own_n kq13), iv (own_n kq14), iv 1, iv 1, iv (own_n kq127), iv (own_n kq128), .unset, .unset, .unset, .unset, .unset, .unset, .unset, .unset, .unset, .unset]) rfl ?_
            refine XS.aload X128.here hx rfl (hb hby at_140) rfl rfl ?_
            show oS p e below T128 (mkF m 142 #[iv p0, iv p1, iv p2, iv p3, iv p4, iv (own_n nn), rv b1, rv b3, iv (((own_n nn) - (1 : Int32))), iv 1, iv (own_n kq13), iv (own_n kq14), iv 1, iv 1, iv (own_n kq127), iv (own_n kq128), .unset, .unset, .unset, .unset, .unset, .unset, .unset, .unset, .unset, .unset] [(.ref b1)]) _
            refine XS.iload X128.here hx rfl (hb hby at_142) rfl ?_
            refine XS.iload X128.here hx rfl (hb hby at_144) rfl ?_
            refine st131 _ ?_
            refine XS.istore X131.here hx rfl (hb hby at_149) rfl (l' := #[iv p0, iv p1, iv p2, iv p3, iv p4, iv (own_n nn), rv b1, rv b3, iv (((own_n nn) - (1 : Int32))), iv 1, iv (own_n kq13), iv (own_n kq14), iv 1, iv 1, iv (own_n kq127), iv (own_n kq128), iv 0, .unset, .unset, .unset, .unset, .unset, .unset, .unset, .unset, .unset]) rfl ?_
            refine XS.aload X131.here hx rfl (hb hby at_151) rfl rfl ?_
            refine XS.iload X131.here hx rfl (hb hby at_153) rfl ?_
            refine XS.iload X131.here hx rfl (hb hby at_155) rfl ?_
            refine st133 _ ?_
            show oS p e below T133 (mkF m 160 #[iv p0, iv p1, iv p2, iv p3, iv p4, iv (own_n nn), rv b1, rv b3, iv (((own_n nn) - (1 : Int32))), iv 1, iv (own_n kq13), iv (own_n kq14), iv 1, iv 1, iv (own_n kq127), iv (own_n kq128), iv 0, .unset, .unset, .unset, .unset, .unset, .unset, .unset, .unset, .unset] [(.int 0)]) _
            refine XS.istore X133.here hx rfl (hb hby at_160) rfl (l' := #[iv p0, iv p1, iv p2, iv p3, iv p4, iv (own_n nn), rv b1, rv b3, iv (((own_n nn) - (1 : Int32))), iv 1, iv (own_n kq13), iv (own_n kq14), iv 1, iv 1, iv (own_n kq127), iv (own_n kq128), iv 0, iv 0, .unset, .unset, .unset, .unset, .unset, .unset, .unset, .unset]) rfl ?_
            refine XS.iload X133.here hx rfl (hb hby at_162) rfl ?_
            refine XS.ifYes X133.here hx rfl (pc0 := 164) (pc' := 173) rfl (hb hby at_164) rfl (XT.i0_eq_t (by decide)) (by decide) (by decide) ?_
            refine XS.iload X133.here hx rfl (hb hby at_173) rfl ?_
            refine XS.ifNo X133.here hx rfl (hb hby at_175) rfl (XT.i0_eq_f (by decide)) ?_
            refine XS.iload X133.here hx rfl (hb hby at_178) rfl ?_
            refine XS.iload X133.here hx rfl (hb hby at_180) rfl ?_
            refine XS.icmpNo X133.here hx rfl (hb hby at_182) rfl (XT.ii_ne_f (by decide)) ?_
            show oS p e below T133 (mkF m 185 #[iv p0, iv p1, iv p2, iv p3, iv p4, iv (own_n nn), rv b1, rv b3, iv (((own_n nn) - (1 : Int32))), iv 1, iv (own_n kq13), iv (own_n kq14), iv 1, iv 1, iv (own_n kq127), iv (own_n kq128), iv 0, iv 0, .unset, .unset, .unset, .unset, .unset, .unset, .unset, .unset] []) _
            refine XS.aload X133.here hx rfl (hb hby at_185) rfl rfl ?_
            refine st134 _ ?_
            refine XS.iload X134.here hx rfl (hb hby at_190) rfl ?_
            refine XS.icmpNo X134.here hx rfl (hb hby at_192) rfl (XT.ii_ne_f rfl) ?_
            refine XT.iconstV X134.here hx rfl (1 : Int32) (hb hby at_195) (by decide) ?_
            refine XS.goto X134.here hx rfl (pc0 := 196) (pc' := 200) rfl (hb hby at_196) (by decide) (by decide) ?_
            refine XS.istore X134.here hx rfl (hb hby at_200) rfl (l' := #[iv p0, iv p1, iv p2, iv p3, iv p4, iv (own_n nn), rv b1, rv b3, iv (((own_n nn) - (1 : Int32))), iv 1, iv (own_n kq13), iv (own_n kq14), iv 1, iv 1, iv (own_n kq127), iv (own_n kq128), iv 0, iv 0, .unset, .unset, .unset, .unset, .unset, .unset, .unset, .unset]) rfl ?_
            refine XS.iloadN X134.here hx rfl (hb hby at_202) rfl ?_
            show oS p e below T134 (mkF m 203 #[iv p0, iv p1, iv p2, iv p3, iv p4, iv (own_n nn), rv b1, rv b3, iv (((own_n nn) - (1 : Int32))), iv 1, iv (own_n kq13), iv (own_n kq14), iv 1, iv 1, iv (own_n kq127), iv (own_n kq128), iv 0, iv 0, .unset, .unset, .unset, .unset, .unset, .unset, .unset, .unset] [(.int p3)]) _
            refine XS.iload X134.here hx rfl (hb hby at_203) rfl ?_
            refine st136 _ ?_
            refine XS.istore X136.here hx rfl (hb hby at_208) rfl (l' := #[iv p0, iv p1, iv p2, iv p3, iv p4, iv (own_n nn), rv b1, rv b3, iv (((own_n nn) - (1 : Int32))), iv 1, iv (own_n kq13), iv (own_n kq14), iv 1, iv 1, iv (own_n kq127), iv (own_n kq128), iv 0, iv 0, iv (own_n kq136), .unset, .unset, .unset, .unset, .unset, .unset, .unset]) rfl ?_
            refine XS.iloadN X136.here hx rfl (hb hby at_210) rfl ?_
            refine XS.iload X136.here hx rfl (hb hby at_211) rfl ?_
            refine st137 _ ?_
            refine XS.istore X137.here hx rfl (hb hby at_216) rfl (l' := #[iv p0, iv p1, iv p2, iv p3, iv p4, iv (own_n nn), rv b1, rv b3, iv (((own_n nn) - (1 : Int32))), iv 1, iv (own_n kq13), iv (own_n kq14), iv 1, iv 1, iv (own_n kq127), iv (own_n kq128), iv 0, iv 0, iv (own_n kq136), iv (own_n kq137), .unset, .unset, .unset, .unset, .unset, .unset]) rfl ?_
            refine XS.aload X137.here hx rfl (hb hby at_218) rfl rfl ?_
            show oS p e below T137 (mkF m 220 #[iv p0, iv p1, iv p2, iv p3, iv p4, iv (own_n nn), rv b1, rv b3, iv (((own_n nn) - (1 : Int32))), iv 1, iv (own_n kq13), iv (own_n kq14), iv 1, iv 1, iv (own_n kq127), iv (own_n kq128), iv 0, iv 0, iv (own_n kq136), iv (own_n kq137), .unset, .unset, .unset, .unset, .unset, .unset] [(.ref b1)]) _
            refine XS.iload X137.here hx rfl (hb hby at_220) rfl ?_
            refine XS.iload X137.here hx rfl (hb hby at_222) rfl ?_
            refine st138 _ ?_
            refine XS.istore X138.here hx rfl (hb hby at_227) rfl (l' := #[iv p0, iv p1, iv p2, iv p3, iv p4, iv (own_n nn), rv b1, rv b3, iv (((own_n nn) - (1 : Int32))), iv 1, iv (own_n kq13), iv (own_n kq14), iv 1, iv 1, iv (own_n kq127), iv (own_n kq128), iv 0, iv 0, iv (own_n kq136), iv (own_n kq137), iv 1, .unset, .unset, .unset, .unset, .unset]) rfl ?_
            refine XS.aload X138.here hx rfl (hb hby at_229) rfl rfl ?_
            refine XS.iload X138.here hx rfl (hb hby at_231) rfl ?_
            refine XS.iload X138.here hx rfl (hb hby at_233) rfl ?_
            refine st158 _ ?_
            show oS p e below T158 (mkF m 238 #[iv p0, iv p1, iv p2, iv p3, iv p4, iv (own_n nn), rv b1, rv b3, iv (((own_n nn) - (1 : Int32))), iv 1, iv (own_n kq13), iv (own_n kq14), iv 1, iv 1, iv (own_n kq127), iv (own_n kq128), iv 0, iv 0, iv (own_n kq136), iv (own_n kq137), iv 1, .unset, .unset, .unset, .unset, .unset] [(.int 1)]) _
            refine XS.istore X158.here hx rfl (hb hby at_238) rfl (l' := #[iv p0, iv p1, iv p2, iv p3, iv p4, iv (own_n nn), rv b1, rv b3, iv (((own_n nn) - (1 : Int32))), iv 1, iv (own_n kq13), iv (own_n kq14), iv 1, iv 1, iv (own_n kq127), iv (own_n kq128), iv 0, iv 0, iv (own_n kq136), iv (own_n kq137), iv 1, iv 1, .unset, .unset, .unset, .unset]) rfl ?_
            refine XS.iload X158.here hx rfl (hb hby at_240) rfl ?_
            refine XS.ifNo X158.here hx rfl (hb hby at_242) rfl (XT.i0_eq_f (by decide)) ?_
            refine XS.iload X158.here hx rfl (hb hby at_245) rfl ?_
            refine XT.iconstV X158.here hx rfl (1 : Int32) (hb hby at_247) (by decide) ?_
            refine XS.isub X158.here hx rfl (hb hby at_248) rfl ?_
            refine XS.istore X158.here hx rfl (hb hby at_249) rfl (l' := #[iv p0, iv p1, iv p2, iv p3, iv p4, iv (own_n nn), rv b1, rv b3, iv ((((own_n nn) - (1 : Int32)) - (1 : Int32))), iv 1, iv (own_n kq13), iv (own_n kq14), iv 1, iv 1, iv (own_n kq127), iv (own_n kq128), iv 0, iv 0, iv (own_n kq136), iv (own_n kq137), iv 1, iv 1, .unset, .unset, .unset, .unset]) rfl ?_
            refine XS.iload X158.here hx rfl (hb hby at_251) rfl ?_
            show oS p e below T158 (mkF m 253 #[iv p0, iv p1, iv p2, iv p3, iv p4, iv (own_n nn), rv b1, rv b3, iv ((((own_n nn) - (1 : Int32)) - (1 : Int32))), iv 1, iv (own_n kq13), iv (own_n kq14), iv 1, iv 1, iv (own_n kq127), iv (own_n kq128), iv 0, iv 0, iv (own_n kq136), iv (own_n kq137), iv 1, iv 1, .unset, .unset, .unset, .unset] [(.int 1)]) _
            refine XS.ifNo X158.here hx rfl (hb hby at_253) rfl (XT.i0_eq_f (by decide)) ?_
            refine XS.iload X158.here hx rfl (hb hby at_256) rfl ?_
            refine XS.iload X158.here hx rfl (hb hby at_258) rfl ?_
            refine XS.icmpNo X158.here hx rfl (hb hby at_260) rfl (XT.ii_ne_f (by decide)) ?_
            refine XS.aload X158.here hx rfl (hb hby at_263) rfl rfl ?_
            refine st160 _ ?_
            refine XS.iload X160.here hx rfl (hb hby at_268) rfl ?_
            refine XS.icmpNo X160.here hx rfl (hb hby at_270) rfl (XT.ii_ne_f rfl) ?_
            show oS p e below T160 (mkF m 273 #[iv p0, iv p1, iv p2, iv p3, iv p4, iv (own_n nn), rv b1, rv b3, iv ((((own_n nn) - (1 : Int32)) - (1 : Int32))), iv 1, iv (own_n kq13), iv (own_n kq14), iv 1, iv 1, iv (own_n kq127), iv (own_n kq128), iv 0, iv 0, iv (own_n kq136), iv (own_n kq137), iv 1, iv 1, .unset, .unset, .unset, .unset] []) _
            refine XT.iconstV X160.here hx rfl (1 : Int32) (hb hby at_273) (by decide) ?_
            refine XS.goto X160.here hx rfl (pc0 := 274) (pc' := 278) rfl (hb hby at_274) (by decide) (by decide) ?_
            refine XS.istore X160.here hx rfl (hb hby at_278) rfl (l' := #[iv p0, iv p1, iv p2, iv p3, iv p4, iv (own_n nn), rv b1, rv b3, iv ((((own_n nn) - (1 : Int32)) - (1 : Int32))), iv 1, iv (own_n kq13), iv (own_n kq14), iv 1, iv 1, iv (own_n kq127), iv (own_n kq128), iv 0, iv 0, iv (own_n kq136), iv (own_n kq137), iv 1, iv 1, .unset, .unset, .unset, .unset]) rfl ?_
            refine XS.iload X160.here hx rfl (hb hby at_280) rfl ?_
            refine XS.iload X160.here hx rfl (hb hby at_282) rfl ?_
            refine st162 _ ?_
            refine XS.istore X162.here hx rfl (hb hby at_287) rfl (l' := #[iv p0, iv p1, iv p2, iv p3, iv p4, iv (own_n nn), rv b1, rv b3, iv ((((own_n nn) - (1 : Int32)) - (1 : Int32))), iv 1, iv (own_n kq13), iv (own_n kq14), iv 1, iv 1, iv (own_n kq127), iv (own_n kq128), iv 0, iv 0, iv (own_n kq136), iv (own_n kq137), iv 1, iv 1, iv (own_n kq162), .unset, .unset, .unset]) rfl ?_
            refine XS.iload X162.here hx rfl (hb hby at_289) rfl ?_
            show oS p e below T162 (mkF m 291 #[iv p0, iv p1, iv p2, iv p3, iv p4, iv (own_n nn), rv b1, rv b3, iv ((((own_n nn) - (1 : Int32)) - (1 : Int32))), iv 1, iv (own_n kq13), iv (own_n kq14), iv 1, iv 1, iv (own_n kq127), iv (own_n kq128), iv 0, iv 0, iv (own_n kq136), iv (own_n kq137), iv 1, iv 1, iv (own_n kq162), .unset, .unset, .unset] [(.int p4)]) _
            refine XS.iload X162.here hx rfl (hb hby at_291) rfl ?_
            refine st163 _ ?_
            refine XS.istore X163.here hx rfl (hb hby at_296) rfl (l' := #[iv p0, iv p1, iv p2, iv p3, iv p4, iv (own_n nn), rv b1, rv b3, iv ((((own_n nn) - (1 : Int32)) - (1 : Int32))), iv 1, iv (own_n kq13), iv (own_n kq14), iv 1, iv 1, iv (own_n kq127), iv (own_n kq128), iv 0, iv 0, iv (own_n kq136), iv (own_n kq137), iv 1, iv 1, iv (own_n kq162), iv (own_n kq163), .unset, .unset]) rfl ?_
            refine XS.aload X163.here hx rfl (hb hby at_298) rfl rfl ?_
            refine XS.iload X163.here hx rfl (hb hby at_300) rfl ?_
            refine XS.iload X163.here hx rfl (hb hby at_302) rfl ?_
            refine st166 _ ?_
            refine XS.istore X166.here hx rfl (hb hby at_307) rfl (l' := #[iv p0, iv p1, iv p2, iv p3, iv p4, iv (own_n nn), rv b1, rv b3, iv ((((own_n nn) - (1 : Int32)) - (1 : Int32))), iv 1, iv (own_n kq13), iv (own_n kq14), iv 1, iv 1, iv (own_n kq127), iv (own_n kq128), iv 0, iv 0, iv (own_n kq136), iv (own_n kq137), iv 1, iv 1, iv (own_n kq162), iv (own_n kq163), iv 0, .unset]) rfl ?_
            show oS p e below T166 (mkF m 309 #[iv p0, iv p1, iv p2, iv p3, iv p4, iv (own_n nn), rv b1, rv b3, iv ((((own_n nn) - (1 : Int32)) - (1 : Int32))), iv 1, iv (own_n kq13), iv (own_n kq14), iv 1, iv 1, iv (own_n kq127), iv (own_n kq128), iv 0, iv 0, iv (own_n kq136), iv (own_n kq137), iv 1, iv 1, iv (own_n kq162), iv (own_n kq163), iv 0, .unset] []) _
            refine XS.aload X166.here hx rfl (hb hby at_309) rfl rfl ?_
            refine XS.iload X166.here hx rfl (hb hby at_311) rfl ?_
            refine XS.iload X166.here hx rfl (hb hby at_313) rfl ?_
            refine st168 _ ?_
            refine XS.istore X168.here hx rfl (hb hby at_318) rfl (l' := #[iv p0, iv p1, iv p2, iv p3, iv p4, iv (own_n nn), rv b1, rv b3, iv ((((own_n nn) - (1 : Int32)) - (1 : Int32))), iv 1, iv (own_n kq13), iv (own_n kq14), iv 1, iv 1, iv (own_n kq127), iv (own_n kq128), iv 0, iv 0, iv (own_n kq136), iv (own_n kq137), iv 1, iv 1, iv (own_n kq162), iv (own_n kq163), iv 0, iv 0]) rfl ?_
            refine XS.iload X168.here hx rfl (hb hby at_320) rfl ?_
            refine XS.ifYes X168.here hx rfl (pc0 := 322) (pc' := 331) rfl (hb hby at_322) rfl (XT.i0_eq_t (by decide)) (by decide) (by decide) ?_
            refine XS.iload X168.here hx rfl (hb hby at_331) rfl ?_
            show oS p e below T168 (mkF m 333 #[iv p0, iv p1, iv p2, iv p3, iv p4, iv (own_n nn), rv b1, rv b3, iv ((((own_n nn) - (1 : Int32)) - (1 : Int32))), iv 1, iv (own_n kq13), iv (own_n kq14), iv 1, iv 1, iv (own_n kq127), iv (own_n kq128), iv 0, iv 0, iv (own_n kq136), iv (own_n kq137), iv 1, iv 1, iv (own_n kq162), iv (own_n kq163), iv 0, iv 0] [(.int 1)]) _
            refine XS.ifNo X168.here hx rfl (hb hby at_333) rfl (XT.i0_eq_f (by decide)) ?_
            refine XS.iload X168.here hx rfl (hb hby at_336) rfl ?_
            refine XS.iload X168.here hx rfl (hb hby at_338) rfl ?_
            refine XS.icmpNo X168.here hx rfl (hb hby at_340) rfl (XT.ii_ne_f (by decide)) ?_
            refine XS.aload X168.here hx rfl (hb hby at_343) rfl rfl ?_
            refine st169 _ ?_
            refine XS.iload X169.here hx rfl (hb hby at_348) rfl ?_
            refine XS.icmpNo X169.here hx rfl (hb hby at_350) rfl (XT.ii_ne_f rfl) ?_
            show oS p e below T169 (mkF m 353 #[iv p0, iv p1, iv p2, iv p3, iv p4, iv (own_n nn), rv b1, rv b3, iv ((((own_n nn) - (1 : Int32)) - (1 : Int32))), iv 1, iv (own_n kq13), iv (own_n kq14), iv 1, iv 1, iv (own_n kq127), iv (own_n kq128), iv 0, iv 0, iv (own_n kq136), iv (own_n kq137), iv 1, iv 1, iv (own_n kq162), iv (own_n kq163), iv 0, iv 0] []) _
            refine XT.iconstV X169.here hx rfl (1 : Int32) (hb hby at_353) (by decide) ?_
            refine XS.goto X169.here hx rfl (pc0 := 354) (pc' := 358) rfl (hb hby at_354) (by decide) (by decide) ?_
            refine XS.istore X169.here hx rfl (hb hby at_358) rfl (l' := #[iv p0, iv p1, iv p2, iv p3, iv p4, iv (own_n nn), rv b1, rv b3, iv ((((own_n nn) - (1 : Int32)) - (1 : Int32))), iv 1, iv (own_n kq13), iv (own_n kq14), iv 1, iv 1, iv (own_n kq127), iv (own_n kq128), iv 0, iv 0, iv (own_n kq136), iv (own_n kq137), iv 1, iv 1, iv (own_n kq162), iv (own_n kq163), iv 0, iv 0]) rfl ?_
            refine XS.iload X169.here hx rfl (hb hby at_360) rfl ?_
            exact kz)
          obtain ⟨fs, hr, hrun, hended, hW, hsame⟩ := X169.leave (v := some (.int 1)) (fun h => by rw [Bd.returns] at h; cases h)
          refine ⟨_, _, pre0 _ (S171 _ ?_), hrun, hended, _, _, rfl, ?_, ⟨_, rfl⟩, hW, hsame.mono (by decide) (by decide)⟩
          · exact retN X169 hx (t := .boolean) Bd.returns (by simp) (hb hby at_362) hr
          · show Qrm0s Z p0 p1 p2 p3 p4 nn h0 n0 _ T169.heap _
            rw [e169]
            exact ⟨rfl, N169⟩
        · have N166 := Fr.app N163 N166q
          have e166 : T166.heap = T166.heap := rfl
          have Zk166 : n0 ≤ T166.heap.size := Nat.le_trans Zk158 K166.1
          have Kk166 : Keep h0 T166.heap [] := Kk158.trans K166 (allS (Or.inr sz_b1) (allS (Or.inr sz_b2') all0))
          have f172 := (B158.keep K166 (ninS (Ne.symm ne_b1_b3) (ninS (Ne.symm ne_b2'_b3) nin0)))
          obtain ⟨_, T173, Lc173, X173, hQ173, st173⟩ := own_callS (W := 0) (y := mN5) X166 hx hZ hown (hw _ (own_w 30 rfl)) (hw _ (own_w 31 rfl)) (hw _ (own_w 16 rfl)) (hw _ (own_w 32 rfl)) (by decide) (rmRef1 l Z av0 hw [] b3 k3 (own_L (own_L own_n (own_n kq13) (own_n kq14)) ((own_L own_n (own_n kq13) (own_n kq14)) kq136) ((own_L own_n (own_n kq13) (own_n kq14)) kq137)) kq162 kq163 T166.heap n0 Zk166 f172 (Nat.lt_of_lt_of_le lq162 hnn) (Nat.lt_of_lt_of_le lq163 hnn) ge_b3 (fun q => rs166 ((RL158 _ lq162 _ lq163).mpr q))) (by decide) (by decide) (g := (mkF m 315 #[iv p0, iv p1, iv p2, iv p3, iv p4, iv (own_n nn), rv b1, rv b3, iv ((((own_n nn) - (1 : Int32)) - (1 : Int32))), iv 1, iv (own_n kq13), iv (own_n kq14), iv 1, iv 1, iv (own_n kq127), iv (own_n kq128), iv 0, iv 0, iv (own_n kq136), iv (own_n kq137), iv 1, iv 1, iv (own_n kq162), iv (own_n kq163), iv 1, .unset] [(.int (own_n kq163)), (.int (own_n kq162)), (.ref b3)])) rfl (by rw [hml]; rfl) (argsL := [(.ref b3), (.int (own_n kq162)), (.int (own_n kq163))]) (rest := []) (lenOf pd__III_Z rfl) rfl (hb hby at_315) rfl e166 (by decide : 3 + 0 ≤ _) (by decide : 10 + 0 ≤ _)
          obtain ⟨rfl, N173q, K173, B173⟩ := hQ173
          have N173 := Fr.app N166 N173q
          have e173 : T173.heap = T173.heap := rfl
          have Zk173 : n0 ≤ T173.heap.size := Nat.le_trans Zk166 K173.1
          have Kk173 : Keep h0 T173.heap [] := Kk166.trans K173 (allS (Or.inr sz_b3) all0)
          have RL173 := own_RL RL158 lq162 lq163
          have f174 := (C166.keep K173 (ninS ne_b1_b3 nin0))
          have f176 := ((f161.keep K166).keep K173)
          obtain ⟨_, T175, Lc175, X175, hQ175, st175⟩ := own_virtual (W := 0) (y := mN0) (z := mN0) X173 hx hZ hown (hw _ (own_w 33 rfl)) (hw _ (own_w 34 rfl)) (notFace_of_selects (args := #[]) (mvT hZ (hw _ (own_w 36 rfl)))) (hw _ (own_w 36 rfl)) (hw _ (own_w 35 rfl)) (hw _ (own_w 37 rfl)) (hw _ (own_w 2 rfl)) (by decide) (rmCount l Z av0 hw [] b1 ((((own_n nn) - (1 : Int32)) - (1 : Int32)) - (1 : Int32)) T173.heap n0 Zk173 f174) (by decide) (by decide) f176 (g := (mkF m 345 #[iv p0, iv p1, iv p2, iv p3, iv p4, iv (own_n nn), rv b1, rv b3, iv (((((own_n nn) - (1 : Int32)) - (1 : Int32)) - (1 : Int32))), iv 1, iv (own_n kq13), iv (own_n kq14), iv 1, iv 1, iv (own_n kq127), iv (own_n kq128), iv 0, iv 0, iv (own_n kq136), iv (own_n kq137), iv 1, iv 1, iv (own_n kq162), iv (own_n kq163), iv 1, iv 1] [(.ref b1)])) rfl (by rw [hml]; rfl) (argsL := []) (rest := []) (lenOf pd__I rfl) rfl (hb hby at_345) rfl e173 (by decide : 3 + 0 ≤ _) (by decide : 10 + 0 ≤ _)
          obtain ⟨rfl, N175q, hh175⟩ := hQ175
          have N175 := Fr.app N173 N175q
          have e175 : T175.heap = T173.heap := hh175
          have S177 : ∀ tz, oS p e below T175 (mkF m 362 #[iv p0, iv p1, iv p2, iv p3, iv p4, iv (own_n nn), rv b1, rv b3, iv (((((own_n nn) - (1 : Int32)) - (1 : Int32)) - (1 : Int32))), iv 1, iv (own_n kq13), iv (own_n kq14), iv 1, iv 1, iv (own_n kq127), iv (own_n kq128), iv 0, iv 0, iv (own_n kq136), iv (own_n kq137), iv 1, iv 1, iv (own_n kq162), iv (own_n kq163), iv 1, iv 1] [(.int 1)]) tz → oS p e below s₁ (mkF m 0 #[iv p0, iv p1, iv p2, iv p3, iv p4, .unset, .unset, .unset, .unset, .unset, .unset, .unset, .unset, .unset, .unset, .unset, .unset, .unset, .unset, .unset, .unset, .unset, .unset, .unset, .unset, .unset] []) tz := fun tz kz => id (by
            show oS p e below s₁ (mkF m 0 #[iv p0, iv p1, iv p2, iv p3, iv p4, .unset, .unset, .unset, .unset, .unset, .unset, .unset, .unset, .unset, .unset, .unset, .unset, .unset, .unset, .unset, .unset, .unset, .unset, .unset, .unset, .unset] []) _
            refine XT.iconstV X0.here hx rfl (1 : Int32) (hb hby at_0) (by decide) ?_
            refine XS.iloadN X0.here hx rfl (hb hby at_1) rfl ?_
            refine XT.iconstV X0.here hx rfl (3 : Int32) (hb hby at_2) (by decide) ?_
            refine XS.iand X0.here hx rfl (hb hby at_3) rfl ?_
            refine XS.iadd X0.here hx rfl (hb hby at_4) rfl ?_
            show oS p e below s₁ (mkF m 5 #[iv p0, iv p1, iv p2, iv p3, iv p4, .unset, .unset, .unset, .unset, .unset, .unset, .unset, .unset, .unset, .unset, .unset, .unset, .unset, .unset, .unset, .unset, .unset, .unset, .unset, .unset, .unset] [(.int ((1 : Int32) + (p0 &&& (3 : Int32))))]) _
            rw [hn]
            show oS p e below s₁ (mkF m 5 #[iv p0, iv p1, iv p2, iv p3, iv p4, .unset, .unset, .unset, .unset, .unset, .unset, .unset, .unset, .unset, .unset, .unset, .unset, .unset, .unset, .unset, .unset, .unset, .unset, .unset, .unset, .unset] [(.int (own_n nn))]) _
            refine XS.istore X0.here hx rfl (hb hby at_5) rfl (l' := #[iv p0, iv p1, iv p2, iv p3, iv p4, iv (own_n nn), .unset, .unset, .unset, .unset, .unset, .unset, .unset, .unset, .unset, .unset, .unset, .unset, .unset, .unset, .unset, .unset, .unset, .unset, .unset, .unset]) rfl ?_
            refine st1 _ ?_
            show oS p e below T1 (mkF m 10 #[iv p0, iv p1, iv p2, iv p3, iv p4, iv (own_n nn), .unset, .unset, .unset, .unset, .unset, .unset, .unset, .unset, .unset, .unset, .unset, .unset, .unset, .unset, .unset, .unset, .unset, .unset, .unset, .unset] [(.ref b1)]) _
            refine XS.dup X1.here hx rfl (hb hby at_10) rfl rfl ?_
            refine XS.iload X1.here hx rfl (hb hby at_11) rfl ?_
            refine st2 _ ?_
            refine XS.astore X2.here hx rfl (hb hby at_16) rfl rfl (l' := #[iv p0, iv p1, iv p2, iv p3, iv p4, iv (own_n nn), rv b1, .unset, .unset, .unset, .unset, .unset, .unset, .unset, .unset, .unset, .unset, .unset, .unset, .unset, .unset, .unset, .unset, .unset, .unset, .unset]) rfl ?_
            refine XT.iconstV X2.here hx rfl (4 : Int32) (hb hby at_18) (by decide) ?_
            refine st3 _ ?_
            refine XS.dup X3.here hx rfl (hb hby at_21) rfl rfl ?_
            refine XT.iconstV X3.here hx rfl (0 : Int32) (hb hby at_22) (by decide) ?_
            show oS p e below T3 (mkF m 23 #[iv p0, iv p1, iv p2, iv p3, iv p4, iv (own_n nn), rv b1, .unset, .unset, .unset, .unset, .unset, .unset, .unset, .unset, .unset, .unset, .unset, .unset, .unset, .unset, .unset, .unset, .unset, .unset, .unset] [(.int 0), (.ref b3), (.ref b3)]) _
            refine XT.iconstV X3.here hx rfl (0 : Int32) (hb hby at_23) (by decide) ?_
            refine st6 _ ?_
            refine XS.dup X6.here hx rfl (hb hby at_25) rfl rfl ?_
            refine XT.iconstV X6.here hx rfl (1 : Int32) (hb hby at_26) (by decide) ?_
            refine XT.iconstV X6.here hx rfl (1 : Int32) (hb hby at_27) (by decide) ?_
            refine st8 _ ?_
            refine XS.dup X8.here hx rfl (hb hby at_29) rfl rfl ?_
            refine XT.iconstV X8.here hx rfl (2 : Int32) (hb hby at_30) (by decide) ?_
            show oS p e below T8 (mkF m 31 #[iv p0, iv p1, iv p2, iv p3, iv p4, iv (own_n nn), rv b1, .unset, .unset, .unset, .unset, .unset, .unset, .unset, .unset, .unset, .unset, .unset, .unset, .unset, .unset, .unset, .unset, .unset, .unset, .unset] [(.int 2), (.ref b3), (.ref b3)]) _
            refine XT.iconstV X8.here hx rfl (2 : Int32) (hb hby at_31) (by decide) ?_
            refine st10 _ ?_
            refine XS.dup X10.here hx rfl (hb hby at_33) rfl rfl ?_
            refine XT.iconstV X10.here hx rfl (3 : Int32) (hb hby at_34) (by decide) ?_
            refine XT.iconstV X10.here hx rfl (3 : Int32) (hb hby at_35) (by decide) ?_
            refine st12 _ ?_
            refine XS.astore X12.here hx rfl (hb hby at_37) rfl rfl (l' := #[iv p0, iv p1, iv p2, iv p3, iv p4, iv (own_n nn), rv b1, rv b3, .unset, .unset, .unset, .unset, .unset, .unset, .unset, .unset, .unset, .unset, .unset, .unset, .unset, .unset, .unset, .unset, .unset, .unset]) rfl ?_
            refine XS.iload X12.here hx rfl (hb hby at_39) rfl ?_
            show oS p e below T12 (mkF m 41 #[iv p0, iv p1, iv p2, iv p3, iv p4, iv (own_n nn), rv b1, rv b3, .unset, .unset, .unset, .unset, .unset, .unset, .unset, .unset, .unset, .unset, .unset, .unset, .unset, .unset, .unset, .unset, .unset, .unset] [(.int (own_n nn))]) _
            refine XS.istore X12.here hx rfl (hb hby at_41) rfl (l' := #[iv p0, iv p1, iv p2, iv p3, iv p4, iv (own_n nn), rv b1, rv b3, iv (own_n nn), .unset, .unset, .unset, .unset, .unset, .unset, .unset, .unset, .unset, .unset, .unset, .unset, .unset, .unset, .unset, .unset, .unset]) rfl ?_
            refine XT.iconstV X12.here hx rfl (1 : Int32) (hb hby at_43) (by decide) ?_
            refine XS.istore X12.here hx rfl (hb hby at_44) rfl (l' := #[iv p0, iv p1, iv p2, iv p3, iv p4, iv (own_n nn), rv b1, rv b3, iv (own_n nn), iv 1, .unset, .unset, .unset, .unset, .unset, .unset, .unset, .unset, .unset, .unset, .unset, .unset, .unset, .unset, .unset, .unset]) rfl ?_
            refine XS.iloadN X12.here hx rfl (hb hby at_46) rfl ?_
            refine XS.iload X12.here hx rfl (hb hby at_47) rfl ?_
            refine st13 _ ?_
            refine XS.istore X13.here hx rfl (hb hby at_52) rfl (l' := #[iv p0, iv p1, iv p2, iv p3, iv p4, iv (own_n nn), rv b1, rv b3, iv (own_n nn), iv 1, iv (own_n kq13), .unset, .unset, .unset, .unset, .unset, .unset, .unset, .unset, .unset, .unset, .unset, .unset, .unset, .unset, .unset]) rfl ?_
            refine XS.iloadN X13.here hx rfl (hb hby at_54) rfl ?_
            show oS p e below T13 (mkF m 55 #[iv p0, iv p1, iv p2, iv p3, iv p4, iv (own_n nn), rv b1, rv b3, iv (own_n nn), iv 1, iv (own_n kq13), .unset, .unset, .unset, .unset, .unset, .unset, .unset, .unset, .unset, .unset, .unset, .unset, .unset, .unset, .unset] [(.int p1)]) _
            refine XS.iload X13.here hx rfl (hb hby at_55) rfl ?_
            refine st14 _ ?_
            refine XS.istore X14.here hx rfl (hb hby at_60) rfl (l' := #[iv p0, iv p1, iv p2, iv p3, iv p4, iv (own_n nn), rv b1, rv b3, iv (own_n nn), iv 1, iv (own_n kq13), iv (own_n kq14), .unset, .unset, .unset, .unset, .unset, .unset, .unset, .unset, .unset, .unset, .unset, .unset, .unset, .unset]) rfl ?_
            refine XS.aload X14.here hx rfl (hb hby at_62) rfl rfl ?_
            refine XS.iload X14.here hx rfl (hb hby at_64) rfl ?_
            refine XS.iload X14.here hx rfl (hb hby at_66) rfl ?_
            refine st19 _ ?_
            refine XS.istore X19.here hx rfl (hb hby at_71) rfl (l' := #[iv p0, iv p1, iv p2, iv p3, iv p4, iv (own_n nn), rv b1, rv b3, iv (own_n nn), iv 1, iv (own_n kq13), iv (own_n kq14), iv 1, .unset, .unset, .unset, .unset, .unset, .unset, .unset, .unset, .unset, .unset, .unset, .unset, .unset]) rfl ?_
            show oS p e below T19 (mkF m 73 #[iv p0, iv p1, iv p2, iv p3, iv p4, iv (own_n nn), rv b1, rv b3, iv (own_n nn), iv 1, iv (own_n kq13), iv (own_n kq14), iv 1, .unset, .unset, .unset, .unset, .unset, .unset, .unset, .unset, .unset, .unset, .unset, .unset, .unset] []) _
            refine XS.aload X19.here hx rfl (hb hby at_73) rfl rfl ?_
            refine XS.iload X19.here hx rfl (hb hby at_75) rfl ?_
            refine XS.iload X19.here hx rfl (hb hby at_77) rfl ?_
            refine st123 _ ?_
            refine XS.istore X123.here hx rfl (hb hby at_82) rfl (l' := #[iv p0, iv p1, iv p2, iv p3, iv p4, iv (own_n nn), rv b1, rv b3, iv (own_n nn), iv 1, iv (own_n kq13), iv (own_n kq14), iv 1, iv 1, .unset, .unset, .unset, .unset, .unset, .unset, .unset, .unset, .unset, .unset, .unset, .unset]) rfl ?_
            refine XS.iload X123.here hx rfl (hb hby at_84) rfl ?_
            refine XS.ifNo X123.here hx rfl (hb hby at_86) rfl (XT.i0_eq_f (by decide)) ?_
            refine XS.iload X123.here hx rfl (hb hby at_89) rfl ?_
            show oS p e below T123 (mkF m 91 #[iv p0, iv p1, iv p2, iv p3, iv p4, iv (own_n nn), rv b1, rv b3, iv (own_n nn), iv 1, iv (own_n kq13), iv (own_n kq14), iv 1, iv 1, .unset, .unset, .unset, .unset, .unset, .unset, .unset, .unset, .unset, .unset, .unset, .unset] [(.int (own_n nn))]) _
            refine XT.iconstV X123.here hx rfl (1 : Int32) (hb hby at_91) (by decide) ?_
            refine XS.isub X123.here hx rfl (hb hby at_92) rfl ?_
            refine XS.istore X123.here hx rfl (hb hby at_93) rfl (l' := #[iv p0, iv p1, iv p2, iv p3, iv p4, iv (own_n nn), rv b1, rv b3, iv (((own_n nn) - (1 : Int32))), iv 1, iv (own_n kq13), iv (own_n kq14), iv 1, iv 1, .unset, .unset, .unset, .unset, .unset, .unset, .unset, .unset, .unset, .unset, .unset, .unset]) rfl ?_
            refine XS.iload X123.here hx rfl (hb hby at_95) rfl ?_
            refine XS.ifNo X123.here hx rfl (hb hby at_97) rfl (XT.i0_eq_f (by decide)) ?_
            refine XS.iload X123.here hx rfl (hb hby at_100) rfl ?_
            refine XS.iload X123.here hx rfl (hb hby at_102) rfl ?_
            refine XS.icmpNo X123.here hx rfl (hb hby at_104) rfl (XT.ii_ne_f (by decide)) ?_
            show oS p e below T123 (mkF m 107 #[iv p0, iv p1, iv p2, iv p3, iv p4, iv (own_n nn), rv b1, rv b3, iv (((own_n nn) - (1 : Int32))), iv 1, iv (own_n kq13), iv (own_n kq14), iv 1, iv 1, .unset, .unset, .unset, .unset, .unset, .unset, .unset, .unset, .unset, .unset, .unset, .unset] []) _
            refine XS.aload X123.here hx rfl (hb hby at_107) rfl rfl ?_
            refine st125 _ ?_
            refine XS.iload X125.here hx rfl (hb hby at_112) rfl ?_
            refine XS.icmpNo X125.here hx rfl (hb hby at_114) rfl (XT.ii_ne_f rfl) ?_
            refine XT.iconstV X125.here hx rfl (1 : Int32) (hb hby at_117) (by decide) ?_
            refine XS.goto X125.here hx rfl (pc0 := 118) (pc' := 122) rfl (hb hby at_118) (by decide) (by decide) ?_
            refine XS.istore X125.here hx rfl (hb hby at_122) rfl (l' := #[iv p0, iv p1, iv p2, iv p3, iv p4, iv (own_n nn), rv b1, rv b3, iv (((own_n nn) - (1 : Int32))), iv 1, iv (own_n kq13), iv (own_n kq14), iv 1, iv 1, .unset, .unset, .unset, .unset, .unset, .unset, .unset, .unset, .unset, .unset, .unset, .unset]) rfl ?_
            refine XS.iloadN X125.here hx rfl (hb hby at_124) rfl ?_
            show oS p e below T125 (mkF m 125 #[iv p0, iv p1, iv p2, iv p3, iv p4, iv (own_n nn), rv b1, rv b3, iv (((own_n nn) - (1 : Int32))), iv 1, iv (own_n kq13), iv (own_n kq14), iv 1, iv 1, .unset, .unset, .unset, .unset, .unset, .unset, .unset, .unset, .unset, .unset, .unset, .unset] [(.int p2)]) _
            refine XS.iload X125.here hx rfl (hb hby at_125) rfl ?_
            refine st127 _ ?_
            refine XS.istore X127.here hx rfl (hb hby at_130) rfl (l' := #[iv p0, iv p1, iv p2, iv p3, iv p4, iv (own_n nn), rv b1, rv b3, iv (((own_n nn) - (1 : Int32))), iv 1, iv (own_n kq13), iv (own_n kq14), iv 1, iv 1, iv (own_n kq127), .unset, .unset, .unset, .unset, .unset, .unset, .unset, .unset, .unset, .unset, .unset]) rfl ?_
            refine XS.iloadN X127.here hx rfl (hb hby at_132) rfl ?_
            refine XS.iload X127.here hx rfl (hb hby at_133) rfl ?_
            refine st128 _ ?_
            refine XS.istore X128.here hx rfl (hb hby at_138) rfl (l' := #[iv p0, iv p1, iv p2, iv p3, iv p4, iv (own_n nn), rv b1, rv b3, iv (((own_n nn) - (1 : Int32))), iv 1, iv (own_n kq13), iv (own_n kq14), iv 1, iv 1, iv (own_n kq127), iv (own_n kq128), .unset, .unset, .unset, .unset, .unset, .unset, .unset, .unset, .unset, .unset]) rfl ?_
            refine XS.aload X128.here hx rfl (hb hby at_140) rfl rfl ?_
            show oS p e below T128 (mkF m 142 #[iv p0, iv p1, iv p2, iv p3, iv p4, iv (own_n nn), rv b1, rv b3, iv (((own_n nn) - (1 : Int32))), iv 1, iv (own_n kq13), iv (own_n kq14), iv 1, iv 1, iv (own_n kq127), iv (own_n kq128), .unset, .unset, .unset, .unset, .unset, .unset, .unset, .unset, .unset, .unset] [(.ref b1)]) _
            refine XS.iload X128.here hx rfl (hb hby at_142) rfl ?_
            refine XS.iload X128.here hx rfl (hb hby at_144) rfl ?_
            refine st131 _ ?_
            refine XS.istore X131.here hx rfl (hb hby at_149) rfl (l' := #[iv p0, iv p1, iv p2, iv p3, iv p4, iv (own_n nn), rv b1, rv b3, iv (((own_n nn) - (1 : Int32))), iv 1, iv (own_n kq13), iv (own_n kq14), iv 1, iv 1, iv (own_n kq127), iv (own_n kq128), iv 0, .unset, .unset, .unset, .unset, .unset, .unset, .unset, .unset, .unset]) rfl ?_
            refine XS.aload X131.here hx rfl (hb hby at_151) rfl rfl ?_
            refine XS.iload X131.here hx rfl (hb hby at_153) rfl ?_
            refine XS.iload X131.here hx rfl (hb hby at_155) rfl ?_
            refine st133 _ ?_
            show oS p e below T133 (mkF m 160 #[iv p0, iv p1, iv p2, iv p3, iv p4, iv (own_n nn), rv b1, rv b3, iv (((own_n nn) - (1 : Int32))), iv 1, iv (own_n kq13), iv (own_n kq14), iv 1, iv 1, iv (own_n kq127), iv (own_n kq128), iv 0, .unset, .unset, .unset, .unset, .unset, .unset, .unset, .unset, .unset] [(.int 0)]) _
            refine XS.istore X133.here hx rfl (hb hby at_160) rfl (l' := #[iv p0, iv p1, iv p2, iv p3, iv p4, iv (own_n nn), rv b1, rv b3, iv (((own_n nn) - (1 : Int32))), iv 1, iv (own_n kq13), iv (own_n kq14), iv 1, iv 1, iv (own_n kq127), iv (own_n kq128), iv 0, iv 0, .unset, .unset, .unset, .unset, .unset, .unset, .unset, .unset]) rfl ?_
            refine XS.iload X133.here hx rfl (hb hby at_162) rfl ?_
            refine XS.ifYes X133.here hx rfl (pc0 := 164) (pc' := 173) rfl (hb hby at_164) rfl (XT.i0_eq_t (by decide)) (by decide) (by decide) ?_
            refine XS.iload X133.here hx rfl (hb hby at_173) rfl ?_
            refine XS.ifNo X133.here hx rfl (hb hby at_175) rfl (XT.i0_eq_f (by decide)) ?_
            refine XS.iload X133.here hx rfl (hb hby at_178) rfl ?_
            refine XS.iload X133.here hx rfl (hb hby at_180) rfl ?_
            refine XS.icmpNo X133.here hx rfl (hb hby at_182) rfl (XT.ii_ne_f (by decide)) ?_
            show oS p e below T133 (mkF m 185 #[iv p0, iv p1, iv p2, iv p3, iv p4, iv (own_n nn), rv b1, rv b3, iv (((own_n nn) - (1 : Int32))), iv 1, iv (own_n kq13), iv (own_n kq14), iv 1, iv 1, iv (own_n kq127), iv (own_n kq128), iv 0, iv 0, .unset, .unset, .unset, .unset, .unset, .unset, .unset, .unset] []) _
            refine XS.aload X133.here hx rfl (hb hby at_185) rfl rfl ?_
            refine st134 _ ?_
            refine XS.iload X134.here hx rfl (hb hby at_190) rfl ?_
            refine XS.icmpNo X134.here hx rfl (hb hby at_192) rfl (XT.ii_ne_f rfl) ?_
            refine XT.iconstV X134.here hx rfl (1 : Int32) (hb hby at_195) (by decide) ?_
            refine XS.goto X134.here hx rfl (pc0 := 196) (pc' := 200) rfl (hb hby at_196) (by decide) (by decide) ?_
            refine XS.istore X134.here hx rfl (hb hby at_200) rfl (l' := #[iv p0, iv p1, iv p2, iv p3, iv p4, iv (own_n nn), rv b1, rv b3, iv (((own_n nn) - (1 : Int32))), iv 1, iv (own_n kq13), iv (own_n kq14), iv 1, iv 1, iv (own_n kq127), iv (own_n kq128), iv 0, iv 0, .unset, .unset, .unset, .unset, .unset, .unset, .unset, .unset]) rfl ?_
            refine XS.iloadN X134.here hx rfl (hb hby at_202) rfl ?_
            show oS p e below T134 (mkF m 203 #[iv p0, iv p1, iv p2, iv p3, iv p4, iv (own_n nn), rv b1, rv b3, iv (((own_n nn) - (1 : Int32))), iv 1, iv (own_n kq13), iv (own_n kq14), iv 1, iv 1, iv (own_n kq127), iv (own_n kq128), iv 0, iv 0, .unset, .unset, .unset, .unset, .unset, .unset, .unset, .unset] [(.int p3)]) _
            refine XS.iload X134.here hx rfl (hb hby at_203) rfl ?_
            refine st136 _ ?_
            refine XS.istore X136.here hx rfl (hb hby at_208) rfl (l' := #[iv p0, iv p1, iv p2, iv p3, iv p4, iv (own_n nn), rv b1, rv b3, iv (((own_n nn) - (1 : Int32))), iv 1, iv (own_n kq13), iv (own_n kq14), iv 1, iv 1, iv (own_n kq127), iv (own_n kq128), iv 0, iv 0, iv (own_n kq136), .unset, .unset, .unset, .unset, .unset, .unset, .unset]) rfl ?_
            refine XS.iloadN X136.here hx rfl (hb hby at_210) rfl ?_
            refine XS.iload X136.here hx rfl (hb hby at_211) rfl ?_
            refine st137 _ ?_
            refine XS.istore X137.here hx rfl (hb hby at_216) rfl (l' := #[iv p0, iv p1, iv p2, iv p3, iv p4, iv (own_n nn), rv b1, rv b3, iv (((own_n nn) - (1 : Int32))), iv 1, iv (own_n kq13), iv (own_n kq14), iv 1, iv 1, iv (own_n kq127), iv (own_n kq128), iv 0, iv 0, iv (own_n kq136), iv (own_n kq137), .unset, .unset, .unset, .unset, .unset, .unset]) rfl ?_
            refine XS.aload X137.here hx rfl (hb hby at_218) rfl rfl ?_
            show oS p e below T137 (mkF m 220 #[iv p0, iv p1, iv p2, iv p3, iv p4, iv (own_n nn), rv b1, rv b3, iv (((own_n nn) - (1 : Int32))), iv 1, iv (own_n kq13), iv (own_n kq14), iv 1, iv 1, iv (own_n kq127), iv (own_n kq128), iv 0, iv 0, iv (own_n kq136), iv (own_n kq137), .unset, .unset, .unset, .unset, .unset, .unset] [(.ref b1)]) _
            refine XS.iload X137.here hx rfl (hb hby at_220) rfl ?_
            refine XS.iload X137.here hx rfl (hb hby at_222) rfl ?_
            refine st138 _ ?_
            refine XS.istore X138.here hx rfl (hb hby at_227) rfl (l' := #[iv p0, iv p1, iv p2, iv p3, iv p4, iv (own_n nn), rv b1, rv b3, iv (((own_n nn) - (1 : Int32))), iv 1, iv (own_n kq13), iv (own_n kq14), iv 1, iv 1, iv (own_n kq127), iv (own_n kq128), iv 0, iv 0, iv (own_n kq136), iv (own_n kq137), iv 1, .unset, .unset, .unset, .unset, .unset]) rfl ?_
            refine XS.aload X138.here hx rfl (hb hby at_229) rfl rfl ?_
            refine XS.iload X138.here hx rfl (hb hby at_231) rfl ?_
            refine XS.iload X138.here hx rfl (hb hby at_233) rfl ?_
            refine st158 _ ?_
            show oS p e below T158 (mkF m 238 #[iv p0, iv p1, iv p2, iv p3, iv p4, iv (own_n nn), rv b1, rv b3, iv (((own_n nn) - (1 : Int32))), iv 1, iv (own_n kq13), iv (own_n kq14), iv 1, iv 1, iv (own_n kq127), iv (own_n kq128), iv 0, iv 0, iv (own_n kq136), iv (own_n kq137), iv 1, .unset, .unset, .unset, .unset, .unset] [(.int 1)]) _
            refine XS.istore X158.here hx rfl (hb hby at_238) rfl (l' := #[iv p0, iv p1, iv p2, iv p3, iv p4, iv (own_n nn), rv b1, rv b3, iv (((own_n nn) - (1 : Int32))), iv 1, iv (own_n kq13), iv (own_n kq14), iv 1, iv 1, iv (own_n kq127), iv (own_n kq128), iv 0, iv 0, iv (own_n kq136), iv (own_n kq137), iv 1, iv 1, .unset, .unset, .unset, .unset]) rfl ?_
            refine XS.iload X158.here hx rfl (hb hby at_240) rfl ?_
            refine XS.ifNo X158.here hx rfl (hb hby at_242) rfl (XT.i0_eq_f (by decide)) ?_
            refine XS.iload X158.here hx rfl (hb hby at_245) rfl ?_
            refine XT.iconstV X158.here hx rfl (1 : Int32) (hb hby at_247) (by decide) ?_
            refine XS.isub X158.here hx rfl (hb hby at_248) rfl ?_
            refine XS.istore X158.here hx rfl (hb hby at_249) rfl (l' := #[iv p0, iv p1, iv p2, iv p3, iv p4, iv (own_n nn), rv b1, rv b3, iv ((((own_n nn) - (1 : Int32)) - (1 : Int32))), iv 1, iv (own_n kq13), iv (own_n kq14), iv 1, iv 1, iv (own_n kq127), iv (own_n kq128), iv 0, iv 0, iv (own_n kq136), iv (own_n kq137), iv 1, iv 1, .unset, .unset, .unset, .unset]) rfl ?_
            refine XS.iload X158.here hx rfl (hb hby at_251) rfl ?_
            show oS p e below T158 (mkF m 253 #[iv p0, iv p1, iv p2, iv p3, iv p4, iv (own_n nn), rv b1, rv b3, iv ((((own_n nn) - (1 : Int32)) - (1 : Int32))), iv 1, iv (own_n kq13), iv (own_n kq14), iv 1, iv 1, iv (own_n kq127), iv (own_n kq128), iv 0, iv 0, iv (own_n kq136), iv (own_n kq137), iv 1, iv 1, .unset, .unset, .unset, .unset] [(.int 1)]) _
            refine XS.ifNo X158.here hx rfl (hb hby at_253) rfl (XT.i0_eq_f (by decide)) ?_
            refine XS.iload X158.here hx rfl (hb hby at_256) rfl ?_
            refine XS.iload X158.here hx rfl (hb hby at_258) rfl ?_
            refine XS.icmpNo X158.here hx rfl (hb hby at_260) rfl (XT.ii_ne_f (by decide)) ?_
            refine XS.aload X158.here hx rfl (hb hby at_263) rfl rfl ?_
            refine st160 _ ?_
            refine XS.iload X160.here hx rfl (hb hby at_268) rfl ?_
            refine XS.icmpNo X160.here hx rfl (hb hby at_270) rfl (XT.ii_ne_f rfl) ?_
            show oS p e below T160 (mkF m 273 #[iv p0, iv p1, iv p2, iv p3, iv p4, iv (own_n nn), rv b1, rv b3, iv ((((own_n nn) - (1 : Int32)) - (1 : Int32))), iv 1, iv (own_n kq13), iv (own_n kq14), iv 1, iv 1, iv (own_n kq127), iv (own_n kq128), iv 0, iv 0, iv (own_n kq136), iv (own_n kq137), iv 1, iv 1, .unset, .unset, .unset, .unset] []) _
            refine XT.iconstV X160.here hx rfl (1 : Int32) (hb hby at_273) (by decide) ?_
            refine XS.goto X160.here hx rfl (pc0 := 274) (pc' := 278) rfl (hb hby at_274) (by decide) (by decide) ?_
            refine XS.istore X160.here hx rfl (hb hby at_278) rfl (l' := #[iv p0, iv p1, iv p2, iv p3, iv p4, iv (own_n nn), rv b1, rv b3, iv ((((own_n nn) - (1 : Int32)) - (1 : Int32))), iv 1, iv (own_n kq13), iv (own_n kq14), iv 1, iv 1, iv (own_n kq127), iv (own_n kq128), iv 0, iv 0, iv (own_n kq136), iv (own_n kq137), iv 1, iv 1, .unset, .unset, .unset, .unset]) rfl ?_
            refine XS.iload X160.here hx rfl (hb hby at_280) rfl ?_
            refine XS.iload X160.here hx rfl (hb hby at_282) rfl ?_
            refine st162 _ ?_
            refine XS.istore X162.here hx rfl (hb hby at_287) rfl (l' := #[iv p0, iv p1, iv p2, iv p3, iv p4, iv (own_n nn), rv b1, rv b3, iv ((((own_n nn) - (1 : Int32)) - (1 : Int32))), iv 1, iv (own_n kq13), iv (own_n kq14), iv 1, iv 1, iv (own_n kq127), iv (own_n kq128), iv 0, iv 0, iv (own_n kq136), iv (own_n kq137), iv 1, iv 1, iv (own_n kq162), .unset, .unset, .unset]) rfl ?_
            refine XS.iload X162.here hx rfl (hb hby at_289) rfl ?_
            show oS p e below T162 (mkF m 291 #[iv p0, iv p1, iv p2, iv p3, iv p4, iv (own_n nn), rv b1, rv b3, iv ((((own_n nn) - (1 : Int32)) - (1 : Int32))), iv 1, iv (own_n kq13), iv (own_n kq14), iv 1, iv 1, iv (own_n kq127), iv (own_n kq128), iv 0, iv 0, iv (own_n kq136), iv (own_n kq137), iv 1, iv 1, iv (own_n kq162), .unset, .unset, .unset] [(.int p4)]) _
            refine XS.iload X162.here hx rfl (hb hby at_291) rfl ?_
            refine st163 _ ?_
            refine XS.istore X163.here hx rfl (hb hby at_296) rfl (l' := #[iv p0, iv p1, iv p2, iv p3, iv p4, iv (own_n nn), rv b1, rv b3, iv ((((own_n nn) - (1 : Int32)) - (1 : Int32))), iv 1, iv (own_n kq13), iv (own_n kq14), iv 1, iv 1, iv (own_n kq127), iv (own_n kq128), iv 0, iv 0, iv (own_n kq136), iv (own_n kq137), iv 1, iv 1, iv (own_n kq162), iv (own_n kq163), .unset, .unset]) rfl ?_
            refine XS.aload X163.here hx rfl (hb hby at_298) rfl rfl ?_
            refine XS.iload X163.here hx rfl (hb hby at_300) rfl ?_
            refine XS.iload X163.here hx rfl (hb hby at_302) rfl ?_
            refine st166 _ ?_
            refine XS.istore X166.here hx rfl (hb hby at_307) rfl (l' := #[iv p0, iv p1, iv p2, iv p3, iv p4, iv (own_n nn), rv b1, rv b3, iv ((((own_n nn) - (1 : Int32)) - (1 : Int32))), iv 1, iv (own_n kq13), iv (own_n kq14), iv 1, iv 1, iv (own_n kq127), iv (own_n kq128), iv 0, iv 0, iv (own_n kq136), iv (own_n kq137), iv 1, iv 1, iv (own_n kq162), iv (own_n kq163), iv 1, .unset]) rfl ?_
            show oS p e below T166 (mkF m 309 #[iv p0, iv p1, iv p2, iv p3, iv p4, iv (own_n nn), rv b1, rv b3, iv ((((own_n nn) - (1 : Int32)) - (1 : Int32))), iv 1, iv (own_n kq13), iv (own_n kq14), iv 1, iv 1, iv (own_n kq127), iv (own_n kq128), iv 0, iv 0, iv (own_n kq136), iv (own_n kq137), iv 1, iv 1, iv (own_n kq162), iv (own_n kq163), iv 1, .unset] []) _
            refine XS.aload X166.here hx rfl (hb hby at_309) rfl rfl ?_
            refine XS.iload X166.here hx rfl (hb hby at_311) rfl ?_
            refine XS.iload X166.here hx rfl (hb hby at_313) rfl ?_
            refine st173 _ ?_
            refine XS.istore X173.here hx rfl (hb hby at_318) rfl (l' := #[iv p0, iv p1, iv p2, iv p3, iv p4, iv (own_n nn), rv b1, rv b3, iv ((((own_n nn) - (1 : Int32)) - (1 : Int32))), iv 1, iv (own_n kq13), iv (own_n kq14), iv 1, iv 1, iv (own_n kq127), iv (own_n kq128), iv 0, iv 0, iv (own_n kq136), iv (own_n kq137), iv 1, iv 1, iv (own_n kq162), iv (own_n kq163), iv 1, iv 1]) rfl ?_
            refine XS.iload X173.here hx rfl (hb hby at_320) rfl ?_
            refine XS.ifNo X173.here hx rfl (hb hby at_322) rfl (XT.i0_eq_f (by decide)) ?_
            refine XS.iload X173.here hx rfl (hb hby at_325) rfl ?_
            show oS p e below T173 (mkF m 327 #[iv p0, iv p1, iv p2, iv p3, iv p4, iv (own_n nn), rv b1, rv b3, iv ((((own_n nn) - (1 : Int32)) - (1 : Int32))), iv 1, iv (own_n kq13), iv (own_n kq14), iv 1, iv 1, iv (own_n kq127), iv (own_n kq128), iv 0, iv 0, iv (own_n kq136), iv (own_n kq137), iv 1, iv 1, iv (own_n kq162), iv (own_n kq163), iv 1, iv 1] [(.int (((own_n nn) - (1 : Int32)) - (1 : Int32)))]) _
            refine XT.iconstV X173.here hx rfl (1 : Int32) (hb hby at_327) (by decide) ?_
            refine XS.isub X173.here hx rfl (hb hby at_328) rfl ?_
            refine XS.istore X173.here hx rfl (hb hby at_329) rfl (l' := #[iv p0, iv p1, iv p2, iv p3, iv p4, iv (own_n nn), rv b1, rv b3, iv (((((own_n nn) - (1 : Int32)) - (1 : Int32)) - (1 : Int32))), iv 1, iv (own_n kq13), iv (own_n kq14), iv 1, iv 1, iv (own_n kq127), iv (own_n kq128), iv 0, iv 0, iv (own_n kq136), iv (own_n kq137), iv 1, iv 1, iv (own_n kq162), iv (own_n kq163), iv 1, iv 1]) rfl ?_
            refine XS.iload X173.here hx rfl (hb hby at_331) rfl ?_
            refine XS.ifNo X173.here hx rfl (hb hby at_333) rfl (XT.i0_eq_f (by decide)) ?_
            refine XS.iload X173.here hx rfl (hb hby at_336) rfl ?_
            refine XS.iload X173.here hx rfl (hb hby at_338) rfl ?_
            refine XS.icmpNo X173.here hx rfl (hb hby at_340) rfl (XT.ii_ne_f (by decide)) ?_
            show oS p e below T173 (mkF m 343 #[iv p0, iv p1, iv p2, iv p3, iv p4, iv (own_n nn), rv b1, rv b3, iv (((((own_n nn) - (1 : Int32)) - (1 : Int32)) - (1 : Int32))), iv 1, iv (own_n kq13), iv (own_n kq14), iv 1, iv 1, iv (own_n kq127), iv (own_n kq128), iv 0, iv 0, iv (own_n kq136), iv (own_n kq137), iv 1, iv 1, iv (own_n kq162), iv (own_n kq163), iv 1, iv 1] []) _
            refine XS.aload X173.here hx rfl (hb hby at_343) rfl rfl ?_
            refine st175 _ ?_
            refine XS.iload X175.here hx rfl (hb hby at_348) rfl ?_
            refine XS.icmpNo X175.here hx rfl (hb hby at_350) rfl (XT.ii_ne_f rfl) ?_
            refine XT.iconstV X175.here hx rfl (1 : Int32) (hb hby at_353) (by decide) ?_
            refine XS.goto X175.here hx rfl (pc0 := 354) (pc' := 358) rfl (hb hby at_354) (by decide) (by decide) ?_
            refine XS.istore X175.here hx rfl (hb hby at_358) rfl (l' := #[iv p0, iv p1, iv p2, iv p3, iv p4, iv (own_n nn), rv b1, rv b3, iv (((((own_n nn) - (1 : Int32)) - (1 : Int32)) - (1 : Int32))), iv 1, iv (own_n kq13), iv (own_n kq14), iv 1, iv 1, iv (own_n kq127), iv (own_n kq128), iv 0, iv 0, iv (own_n kq136), iv (own_n kq137), iv 1, iv 1, iv (own_n kq162), iv (own_n kq163), iv 1, iv 1]) rfl ?_
            refine XS.iload X175.here hx rfl (hb hby at_360) rfl ?_
            show oS p e below T175 (mkF m 362 #[iv p0, iv p1, iv p2, iv p3, iv p4, iv (own_n nn), rv b1, rv b3, iv (((((own_n nn) - (1 : Int32)) - (1 : Int32)) - (1 : Int32))), iv 1, iv (own_n kq13), iv (own_n kq14), iv 1, iv 1, iv (own_n kq127), iv (own_n kq128), iv 0, iv 0, iv (own_n kq136), iv (own_n kq137), iv 1, iv 1, iv (own_n kq162), iv (own_n kq163), iv 1, iv 1] [(.int 1)]) _
            exact kz)
          obtain ⟨fs, hr, hrun, hended, hW, hsame⟩ := X175.leave (v := some (.int 1)) (fun h => by rw [Bd.returns] at h; cases h)
          refine ⟨_, _, pre0 _ (S177 _ ?_), hrun, hended, _, _, rfl, ?_, ⟨_, rfl⟩, hW, hsame.mono (by decide) (by decide)⟩
          · exact retN X175 hx (t := .boolean) Bd.returns (by simp) (hb hby at_362) hr
          · show Qrm0s Z p0 p1 p2 p3 p4 nn h0 n0 _ T175.heap _
            rw [e175]
            exact ⟨rfl, N175⟩
    · have N131 := Fr.app N128 N131q
      have e131 : T131.heap = T131.heap := rfl
      have Zk131 : n0 ≤ T131.heap.size := Nat.le_trans Zk123 K131.1
      have Kk131 : Keep h0 T131.heap [] := Kk123.trans K131 (allS (Or.inr sz_b1) (allS (Or.inr sz_b2') all0))
      have f178 := (B123.keep K131 (ninS (Ne.symm ne_b1_b3) (ninS (Ne.symm ne_b2'_b3) nin0)))
      obtain ⟨_, T179, Lc179, X179, hQ179, st179⟩ := own_callS (W := 0) (y := mN5) X131 hx hZ hown (hw _ (own_w 30 rfl)) (hw _ (own_w 31 rfl)) (hw _ (own_w 16 rfl)) (hw _ (own_w 32 rfl)) (by decide) (rmRef1 l Z av0 hw [] b3 k3 (own_L own_n (own_n kq13) (own_n kq14)) kq127 kq128 T131.heap n0 Zk131 f178 (Nat.lt_of_lt_of_le lq127 hnn) (Nat.lt_of_lt_of_le lq128 hnn) ge_b3 (fun q => rs131 ((RL123 _ lq127 _ lq128).mpr q))) (by decide) (by decide) (g := (mkF m 157 #[iv p0, iv p1, iv p2, iv p3, iv p4, iv (own_n nn), rv b1, rv b3, iv (((own_n nn) - (1 : Int32))), iv 1, iv (own_n kq13), iv (own_n kq14), iv 1, iv 1, iv (own_n kq127), iv (own_n kq128), iv 1, .unset, .unset, .unset, .unset, .unset, .unset, .unset, .unset, .unset] [(.int (own_n kq128)), (.int (own_n kq127)), (.ref b3)])) rfl (by rw [hml]; rfl) (argsL := [(.ref b3), (.int (own_n kq127)), (.int (own_n kq128))]) (rest := []) (lenOf pd__III_Z rfl) rfl (hb hby at_157) rfl e131 (by decide : 3 + 0 ≤ _) (by decide : 10 + 0 ≤ _)
      obtain ⟨rfl, N179q, K179, B179⟩ := hQ179
      have N179 := Fr.app N131 N179q
      have e179 : T179.heap = T179.heap := rfl
      have Zk179 : n0 ≤ T179.heap.size := Nat.le_trans Zk131 K179.1
      have Kk179 : Keep h0 T179.heap [] := Kk131.trans K179 (allS (Or.inr sz_b3) all0)
      have RL179 := own_RL RL123 lq127 lq128
      have f180 := (C131.keep K179 (ninS ne_b1_b3 nin0))
      have f182 := ((f126.keep K131).keep K179)
      obtain ⟨_, T181, Lc181, X181, hQ181, st181⟩ := own_virtual (W := 0) (y := mN0) (z := mN0) X179 hx hZ hown (hw _ (own_w 33 rfl)) (hw _ (own_w 34 rfl)) (notFace_of_selects (args := #[]) (mvT hZ (hw _ (own_w 36 rfl)))) (hw _ (own_w 36 rfl)) (hw _ (own_w 35 rfl)) (hw _ (own_w 37 rfl)) (hw _ (own_w 2 rfl)) (by decide) (rmCount l Z av0 hw [] b1 (((own_n nn) - (1 : Int32)) - (1 : Int32)) T179.heap n0 Zk179 f180) (by decide) (by decide) f182 (g := (mkF m 187 #[iv p0, iv p1, iv p2, iv p3, iv p4, iv (own_n nn), rv b1, rv b3, iv ((((own_n nn) - (1 : Int32)) - (1 : Int32))), iv 1, iv (own_n kq13), iv (own_n kq14), iv 1, iv 1, iv (own_n kq127), iv (own_n kq128), iv 1, iv 1, .unset, .unset, .unset, .unset, .unset, .unset, .unset, .unset] [(.ref b1)])) rfl (by rw [hml]; rfl) (argsL := []) (rest := []) (lenOf pd__I rfl) rfl (hb hby at_187) rfl e179 (by decide : 3 + 0 ≤ _) (by decide : 10 + 0 ≤ _)
      obtain ⟨rfl, N181q, hh181⟩ := hQ181
      have N181 := Fr.app N179 N181q
      have e181 : T181.heap = T179.heap := hh181
      obtain ⟨_, T183, Lc183, X183, hQ183, st183⟩ := own_callS (W := 0) (y := mN1) X181 hx hZ hown (hw _ (own_w 14 rfl)) (hw _ (own_w 15 rfl)) (hw _ (own_w 16 rfl)) (hw _ (own_w 17 rfl)) (by decide) (rmFirst l Z av0 hw [] p3 nn T179.heap n0 Zk179 hone hnn) (by decide) (by decide) (g := (mkF m 205 #[iv p0, iv p1, iv p2, iv p3, iv p4, iv (own_n nn), rv b1, rv b3, iv ((((own_n nn) - (1 : Int32)) - (1 : Int32))), iv 1, iv (own_n kq13), iv (own_n kq14), iv 1, iv 1, iv (own_n kq127), iv (own_n kq128), iv 1, iv 1, .unset, .unset, .unset, .unset, .unset, .unset, .unset, .unset] [(.int (own_n nn)), (.int p3)])) rfl (by rw [hml]; rfl) (argsL := [(.int p3), (.int (own_n nn))]) (rest := []) (lenOf pd__II_I rfl) rfl (hb hby at_205) rfl e181 (by decide : 3 + 0 ≤ _) (by decide : 10 + 0 ≤ _)
      obtain ⟨kq183, lq183, rfl, N183q, hh183⟩ := hQ183
      have N183 := Fr.app N181 N183q
      have e183 : T183.heap = T179.heap := hh183
      obtain ⟨_, T184, Lc184, X184, hQ184, st184⟩ := own_callS (W := 0) (y := mN2) X183 hx hZ hown (hw _ (own_w 18 rfl)) (hw _ (own_w 19 rfl)) (hw _ (own_w 16 rfl)) (hw _ (own_w 20 rfl)) (by decide) (rmSecond l Z av0 hw [] p3 nn T179.heap n0 Zk179 hone hnn) (by decide) (by decide) (g := (mkF m 213 #[iv p0, iv p1, iv p2, iv p3, iv p4, iv (own_n nn), rv b1, rv b3, iv ((((own_n nn) - (1 : Int32)) - (1 : Int32))), iv 1, iv (own_n kq13), iv (own_n kq14), iv 1, iv 1, iv (own_n kq127), iv (own_n kq128), iv 1, iv 1, iv (own_n kq183), .unset, .unset, .unset, .unset, .unset, .unset, .unset] [(.int (own_n nn)), (.int p3)])) rfl (by rw [hml]; rfl) (argsL := [(.int p3), (.int (own_n nn))]) (rest := []) (lenOf pd__II_I rfl) rfl (hb hby at_213) rfl e183 (by decide : 3 + 0 ≤ _) (by decide : 10 + 0 ≤ _)
      obtain ⟨kq184, lq184, rfl, N184q, hh184⟩ := hQ184
      have N184 := Fr.app N183 N184q
      have e184 : T184.heap = T179.heap := hh184
      have f185 := (P131.keep K179 (ninS ne_b1_b3 nin0))
      have f186 := (A131.keep K179 (ninS ne_b2'_b3 nin0))
      obtain ⟨_, T187, Lc187, X187, hQ187, st187⟩ := own_virtual (W := 0) (y := mN4) (z := mN4) X184 hx hZ hown (hw _ (own_w 21 rfl)) (hw _ (own_w 22 rfl)) (notFace_of_selects (args := #[]) (mvT hZ (hw _ (own_w 24 rfl)))) (hw _ (own_w 24 rfl)) (hw _ (own_w 23 rfl)) (hw _ (own_w 25 rfl)) (hw _ (own_w 2 rfl)) (by decide) (rmJoin l Z av0 hw [] b1 b2' k2' nn f131' (own_R (own_R (fun i => i) ((fun i => i) kq13) ((fun i => i) kq14)) ((own_R (fun i => i) ((fun i => i) kq13) ((fun i => i) kq14)) kq127) ((own_R (fun i => i) ((fun i => i) kq13) ((fun i => i) kq14)) kq128)) d131' kq183 kq184 (((own_n nn) - (1 : Int32)) - (1 : Int32)) T179.heap n0 Zk179 hnn f182 f185 f180 f186 I131 lq183 lq184 ge_b1 ge_b2' ne_b1_b2') (by decide) (by decide) f182 (g := (mkF m 224 #[iv p0, iv p1, iv p2, iv p3, iv p4, iv (own_n nn), rv b1, rv b3, iv ((((own_n nn) - (1 : Int32)) - (1 : Int32))), iv 1, iv (own_n kq13), iv (own_n kq14), iv 1, iv 1, iv (own_n kq127), iv (own_n kq128), iv 1, iv 1, iv (own_n kq183), iv (own_n kq184), .unset, .unset, .unset, .unset, .unset, .unset] [(.int (own_n kq184)), (.int (own_n kq183)), (.ref b1)])) rfl (by rw [hml]; rfl) (argsL := [(.int (own_n kq183)), (.int (own_n kq184))]) (rest := []) (lenOf pd__II_Z rfl) rfl (hb hby at_224) rfl e184 (by decide : 3 + 0 ≤ _) (by decide : 10 + 0 ≤ _)
      rcases hQ187 with ⟨rfl, N187q, rs187, K187, P187, C187, f187', A187, I187⟩ | ⟨rfl, N187q, rs187, K187, P187, C187, f187', d187', A187, I187⟩
      · have N187 := Fr.app N184 N187q
        have e187 : T187.heap = T187.heap := rfl
        have Zk187 : n0 ≤ T187.heap.size := Nat.le_trans Zk179 K187.1
        have Kk187 : Keep h0 T187.heap [] := Kk179.trans K187 (allS (Or.inr sz_b1) (allS (Or.inr sz_b2') all0))
        have f188 := (B179.keep K187 (ninS (Ne.symm ne_b1_b3) (ninS (Ne.symm ne_b2'_b3) nin0)))
        obtain ⟨_, T189, Lc189, X189, hQ189, st189⟩ := own_callS (W := 0) (y := mN5) X187 hx hZ hown (hw _ (own_w 30 rfl)) (hw _ (own_w 31 rfl)) (hw _ (own_w 16 rfl)) (hw _ (own_w 32 rfl)) (by decide) (rmRef0 l Z av0 hw [] b3 k3 (own_L (own_L own_n (own_n kq13) (own_n kq14)) ((own_L own_n (own_n kq13) (own_n kq14)) kq127) ((own_L own_n (own_n kq13) (own_n kq14)) kq128)) kq183 kq184 T187.heap n0 Zk187 f188 (Nat.lt_of_lt_of_le lq183 hnn) (Nat.lt_of_lt_of_le lq184 hnn) ge_b3 ((RL179 _ lq183 _ lq184).mp rs187)) (by decide) (by decide) (g := (mkF m 235 #[iv p0, iv p1, iv p2, iv p3, iv p4, iv (own_n nn), rv b1, rv b3, iv ((((own_n nn) - (1 : Int32)) - (1 : Int32))), iv 1, iv (own_n kq13), iv (own_n kq14), iv 1, iv 1, iv (own_n kq127), iv (own_n kq128), iv 1, iv 1, iv (own_n kq183), iv (own_n kq184), iv 0, .unset, .unset, .unset, .unset, .unset] [(.int (own_n kq184)), (.int (own_n kq183)), (.ref b3)])) rfl (by rw [hml]; rfl) (argsL := [(.ref b3), (.int (own_n kq183)), (.int (own_n kq184))]) (rest := []) (lenOf pd__III_Z rfl) rfl (hb hby at_235) rfl e187 (by decide : 3 + 0 ≤ _) (by decide : 10 + 0 ≤ _)
        obtain ⟨rfl, N189q, hh189⟩ := hQ189
        have N189 := Fr.app N187 N189q
        have e189 : T189.heap = T187.heap := hh189
        have f191 := (f182.keep K187)
        obtain ⟨_, T190, Lc190, X190, hQ190, st190⟩ := own_virtual (W := 0) (y := mN0) (z := mN0) X189 hx hZ hown (hw _ (own_w 33 rfl)) (hw _ (own_w 34 rfl)) (notFace_of_selects (args := #[]) (mvT hZ (hw _ (own_w 36 rfl)))) (hw _ (own_w 36 rfl)) (hw _ (own_w 35 rfl)) (hw _ (own_w 37 rfl)) (hw _ (own_w 2 rfl)) (by decide) (rmCount l Z av0 hw [] b1 (((own_n nn) - (1 : Int32)) - (1 : Int32)) T187.heap n0 Zk187 C187) (by decide) (by decide) f191 (g := (mkF m 265 #[iv p0, iv p1, iv p2, iv p3, iv p4, iv (own_n nn), rv b1, rv b3, iv ((((own_n nn) - (1 : Int32)) - (1 : Int32))), iv 1, iv (own_n kq13), iv (own_n kq14), iv 1, iv 1, iv (own_n kq127), iv (own_n kq128), iv 1, iv 1, iv (own_n kq183), iv (own_n kq184), iv 0, iv 0, .unset, .unset, .unset, .unset] [(.ref b1)])) rfl (by rw [hml]; rfl) (argsL := []) (rest := []) (lenOf pd__I rfl) rfl (hb hby at_265) rfl e189 (by decide : 3 + 0 ≤ _) (by decide : 10 + 0 ≤ _)
        obtain ⟨rfl, N190q, hh190⟩ := hQ190
        have N190 := Fr.app N189 N190q
        have e190 : T190.heap = T187.heap := hh190
        obtain ⟨_, T192, Lc192, X192, hQ192, st192⟩ := own_callS (W := 0) (y := mN1) X190 hx hZ hown (hw _ (own_w 14 rfl)) (hw _ (own_w 15 rfl)) (hw _ (own_w 16 rfl)) (hw _ (own_w 17 rfl)) (by decide) (rmFirst l Z av0 hw [] p4 nn T187.heap n0 Zk187 hone hnn) (by decide) (by decide) (g := (mkF m 284 #[iv p0, iv p1, iv p2, iv p3, iv p4, iv (own_n nn), rv b1, rv b3, iv ((((own_n nn) - (1 : Int32)) - (1 : Int32))), iv 1, iv (own_n kq13), iv (own_n kq14), iv 1, iv 1, iv (own_n kq127), iv (own_n kq128), iv 1, iv 1, iv (own_n kq183), iv (own_n kq184), iv 0, iv 0, .unset, .unset, .unset, .unset] [(.int (own_n nn)), (.int p4)])) rfl (by rw [hml]; rfl) (argsL := [(.int p4), (.int (own_n nn))]) (rest := []) (lenOf pd__II_I rfl) rfl (hb hby at_284) rfl e190 (by decide : 3 + 0 ≤ _) (by decide : 10 + 0 ≤ _)
        obtain ⟨kq192, lq192, rfl, N192q, hh192⟩ := hQ192
        have N192 := Fr.app N190 N192q
        have e192 : T192.heap = T187.heap := hh192
        obtain ⟨_, T193, Lc193, X193, hQ193, st193⟩ := own_callS (W := 0) (y := mN2) X192 hx hZ hown (hw _ (own_w 18 rfl)) (hw _ (own_w 19 rfl)) (hw _ (own_w 16 rfl)) (hw _ (own_w 20 rfl)) (by decide) (rmSecond l Z av0 hw [] p4 nn T187.heap n0 Zk187 hone hnn) (by decide) (by decide) (g := (mkF m 293 #[iv p0, iv p1, iv p2, iv p3, iv p4, iv (own_n nn), rv b1, rv b3, iv ((((own_n nn) - (1 : Int32)) - (1 : Int32))), iv 1, iv (own_n kq13), iv (own_n kq14), iv 1, iv 1, iv (own_n kq127), iv (own_n kq128), iv 1, iv 1, iv (own_n kq183), iv (own_n kq184), iv 0, iv 0, iv (own_n kq192), .unset, .unset, .unset] [(.int (own_n nn)), (.int p4)])) rfl (by rw [hml]; rfl) (argsL := [(.int p4), (.int (own_n nn))]) (rest := []) (lenOf pd__II_I rfl) rfl (hb hby at_293) rfl e192 (by decide : 3 + 0 ≤ _) (by decide : 10 + 0 ≤ _)
        obtain ⟨kq193, lq193, rfl, N193q, hh193⟩ := hQ193
        have N193 := Fr.app N192 N193q
        have e193 : T193.heap = T187.heap := hh193
        obtain ⟨_, T194, Lc194, X194, hQ194, st194⟩ := own_virtual (W := 0) (y := mN4) (z := mN4) X193 hx hZ hown (hw _ (own_w 21 rfl)) (hw _ (own_w 22 rfl)) (notFace_of_selects (args := #[]) (mvT hZ (hw _ (own_w 24 rfl)))) (hw _ (own_w 24 rfl)) (hw _ (own_w 23 rfl)) (hw _ (own_w 25 rfl)) (hw _ (own_w 2 rfl)) (by decide) (rmJoin l Z av0 hw [] b1 b2' k2' nn f187' (own_R (own_R (fun i => i) ((fun i => i) kq13) ((fun i => i) kq14)) ((own_R (fun i => i) ((fun i => i) kq13) ((fun i => i) kq14)) kq127) ((own_R (fun i => i) ((fun i => i) kq13) ((fun i => i) kq14)) kq128)) d131' kq192 kq193 (((own_n nn) - (1 : Int32)) - (1 : Int32)) T187.heap n0 Zk187 hnn f191 P187 C187 A187 I187 lq192 lq193 ge_b1 ge_b2' ne_b1_b2') (by decide) (by decide) f191 (g := (mkF m 304 #[iv p0, iv p1, iv p2, iv p3, iv p4, iv (own_n nn), rv b1, rv b3, iv ((((own_n nn) - (1 : Int32)) - (1 : Int32))), iv 1, iv (own_n kq13), iv (own_n kq14), iv 1, iv 1, iv (own_n kq127), iv (own_n kq128), iv 1, iv 1, iv (own_n kq183), iv (own_n kq184), iv 0, iv 0, iv (own_n kq192), iv (own_n kq193), .unset, .unset] [(.int (own_n kq193)), (.int (own_n kq192)), (.ref b1)])) rfl (by rw [hml]; rfl) (argsL := [(.int (own_n kq192)), (.int (own_n kq193))]) (rest := []) (lenOf pd__II_Z rfl) rfl (hb hby at_304) rfl e193 (by decide : 3 + 0 ≤ _) (by decide : 10 + 0 ≤ _)
        rcases hQ194 with ⟨rfl, N194q, rs194, K194, P194, C194, f194', A194, I194⟩ | ⟨rfl, N194q, rs194, K194, P194, C194, f194', d194', A194, I194⟩
        · have N194 := Fr.app N193 N194q
          have e194 : T194.heap = T194.heap := rfl
          have Zk194 : n0 ≤ T194.heap.size := Nat.le_trans Zk187 K194.1
          have Kk194 : Keep h0 T194.heap [] := Kk187.trans K194 (allS (Or.inr sz_b1) (allS (Or.inr sz_b2') all0))
          have f195 := (f188.keep K194 (ninS (Ne.symm ne_b1_b3) (ninS (Ne.symm ne_b2'_b3) nin0)))
          obtain ⟨_, T196, Lc196, X196, hQ196, st196⟩ := own_callS (W := 0) (y := mN5) X194 hx hZ hown (hw _ (own_w 30 rfl)) (hw _ (own_w 31 rfl)) (hw _ (own_w 16 rfl)) (hw _ (own_w 32 rfl)) (by decide) (rmRef0 l Z av0 hw [] b3 k3 (own_L (own_L own_n (own_n kq13) (own_n kq14)) ((own_L own_n (own_n kq13) (own_n kq14)) kq127) ((own_L own_n (own_n kq13) (own_n kq14)) kq128)) kq192 kq193 T194.heap n0 Zk194 f195 (Nat.lt_of_lt_of_le lq192 hnn) (Nat.lt_of_lt_of_le lq193 hnn) ge_b3 ((RL179 _ lq192 _ lq193).mp rs194)) (by decide) (by decide) (g := (mkF m 315 #[iv p0, iv p1, iv p2, iv p3, iv p4, iv (own_n nn), rv b1, rv b3, iv ((((own_n nn) - (1 : Int32)) - (1 : Int32))), iv 1, iv (own_n kq13), iv (own_n kq14), iv 1, iv 1, iv (own_n kq127), iv (own_n kq128), iv 1, iv 1, iv (own_n kq183), iv (own_n kq184), iv 0, iv 0, iv (own_n kq192), iv (own_n kq193), iv 0, .unset] [(.int (own_n kq193)), (.int (own_n kq192)), (.ref b3)])) rfl (by rw [hml]; rfl) (argsL := [(.ref b3), (.int (own_n kq192)), (.int (own_n kq193))]) (rest := []) (lenOf pd__III_Z rfl) rfl (hb hby at_315) rfl e194 (by decide : 3 + 0 ≤ _) (by decide : 10 + 0 ≤ _)
          obtain ⟨rfl, N196q, hh196⟩ := hQ196
          have N196 := Fr.app N194 N196q
          have e196 : T196.heap = T194.heap := hh196
          have f198 := (f191.keep K194)
          obtain ⟨_, T197, Lc197, X197, hQ197, st197⟩ := own_virtual (W := 0) (y := mN0) (z := mN0) X196 hx hZ hown (hw _ (own_w 33 rfl)) (hw _ (own_w 34 rfl)) (notFace_of_selects (args := #[]) (mvT hZ (hw _ (own_w 36 rfl)))) (hw _ (own_w 36 rfl)) (hw _ (own_w 35 rfl)) (hw _ (own_w 37 rfl)) (hw _ (own_w 2 rfl)) (by decide) (rmCount l Z av0 hw [] b1 (((own_n nn) - (1 : Int32)) - (1 : Int32)) T194.heap n0 Zk194 C194) (by decide) (by decide) f198 (g := (mkF m 345 #[iv p0, iv p1, iv p2, iv p3, iv p4, iv (own_n nn), rv b1, rv b3, iv ((((own_n nn) - (1 : Int32)) - (1 : Int32))), iv 1, iv (own_n kq13), iv (own_n kq14), iv 1, iv 1, iv (own_n kq127), iv (own_n kq128), iv 1, iv 1, iv (own_n kq183), iv (own_n kq184), iv 0, iv 0, iv (own_n kq192), iv (own_n kq193), iv 0, iv 0] [(.ref b1)])) rfl (by rw [hml]; rfl) (argsL := []) (rest := []) (lenOf pd__I rfl) rfl (hb hby at_345) rfl e196 (by decide : 3 + 0 ≤ _) (by decide : 10 + 0 ≤ _)
          obtain ⟨rfl, N197q, hh197⟩ := hQ197
          have N197 := Fr.app N196 N197q
          have e197 : T197.heap = T194.heap := hh197
          have S199 : ∀ tz, oS p e below T197 (mkF m 362 #[iv p0, iv p1, iv p2, iv p3, iv p4, iv (own_n nn), rv b1, rv b3, iv ((((own_n nn) - (1 : Int32)) - (1 : Int32))), iv 1, iv (own_n kq13), iv (own_n kq14), iv 1, iv 1, iv (own_n kq127), iv (own_n kq128), iv 1, iv 1, iv (own_n kq183), iv (own_n kq184), iv 0, iv 0, iv (own_n kq192), iv (own_n kq193), iv 0, iv 0] [(.int 1)]) tz → oS p e below s₁ (mkF m 0 #[iv p0, iv p1, iv p2, iv p3, iv p4, .unset, .unset, .unset, .unset, .unset, .unset, .unset, .unset, .unset, .unset, .unset, .unset, .unset, .unset, .unset, .unset, .unset, .unset, .unset, .unset, .unset] []) tz := fun tz kz => id (by
            show oS p e below s₁ (mkF m 0 #[iv p0, iv p1, iv p2, iv p3, iv p4, .unset, .unset, .unset, .unset, .unset, .unset, .unset, .unset, .unset, .unset, .unset, .unset, .unset, .unset, .unset, .unset, .unset, .unset, .unset, .unset, .unset] []) _
            refine XT.iconstV X0.here hx rfl (1 : Int32) (hb hby at_0) (by decide) ?_
            refine XS.iloadN X0.here hx rfl (hb hby at_1) rfl ?_
            refine XT.iconstV X0.here hx rfl (3 : Int32) (hb hby at_2) (by decide) ?_
            refine XS.iand X0.here hx rfl (hb hby at_3) rfl ?_
            refine XS.iadd X0.here hx rfl (hb hby at_4) rfl ?_
            show oS p e below s₁ (mkF m 5 #[iv p0, iv p1, iv p2, iv p3, iv p4, .unset, .unset, .unset, .unset, .unset, .unset, .unset, .unset, .unset, .unset, .unset, .unset, .unset, .unset, .unset, .unset, .unset, .unset, .unset, .unset, .unset] [(.int ((1 : Int32) + (p0 &&& (3 : Int32))))]) _
            rw [hn]
            show oS p e below s₁ (mkF m 5 #[iv p0, iv p1, iv p2, iv p3, iv p4, .unset, .unset, .unset, .unset, .unset, .unset, .unset, .unset, .unset, .unset, .unset, .unset, .unset, .unset, .unset, .unset, .unset, .unset, .unset, .unset, .unset] [(.int (own_n nn))]) _
            refine XS.istore X0.here hx rfl (hb hby at_5) rfl (l' := #[iv p0, iv p1, iv p2, iv p3, iv p4, iv (own_n nn), .unset, .unset, .unset, .unset, .unset, .unset, .unset, .unset, .unset, .unset, .unset, .unset, .unset, .unset, .unset, .unset, .unset, .unset, .unset, .unset]) rfl ?_
            refine st1 _ ?_
            show oS p e below T1 (mkF m 10 #[iv p0, iv p1, iv p2, iv p3, iv p4, iv (own_n nn), .unset, .unset, .unset, .unset, .unset, .unset, .unset, .unset, .unset, .unset, .unset, .unset, .unset, .unset, .unset, .unset, .unset, .unset, .unset, .unset] [(.ref b1)]) _
            refine XS.dup X1.here hx rfl (hb hby at_10) rfl rfl ?_
            refine XS.iload X1.here hx rfl (hb hby at_11) rfl ?_
            refine st2 _ ?_
            refine XS.astore X2.here hx rfl (hb hby at_16) rfl rfl (l' := #[iv p0, iv p1, iv p2, iv p3, iv p4, iv (own_n nn), rv b1, .unset, .unset, .unset, .unset, .unset, .unset, .unset, .unset, .unset, .unset, .unset, .unset, .unset, .unset, .unset, .unset, .unset, .unset, .unset]) rfl ?_
            refine XT.iconstV X2.here hx rfl (4 : Int32) (hb hby at_18) (by decide) ?_
            refine st3 _ ?_
            refine XS.dup X3.here hx rfl (hb hby at_21) rfl rfl ?_
            refine XT.iconstV X3.here hx rfl (0 : Int32) (hb hby at_22) (by decide) ?_
            show oS p e below T3 (mkF m 23 #[iv p0, iv p1, iv p2, iv p3, iv p4, iv (own_n nn), rv b1, .unset, .unset, .unset, .unset, .unset, .unset, .unset, .unset, .unset, .unset, .unset, .unset, .unset, .unset, .unset, .unset, .unset, .unset, .unset] [(.int 0), (.ref b3), (.ref b3)]) _
            refine XT.iconstV X3.here hx rfl (0 : Int32) (hb hby at_23) (by decide) ?_
            refine st6 _ ?_
            refine XS.dup X6.here hx rfl (hb hby at_25) rfl rfl ?_
            refine XT.iconstV X6.here hx rfl (1 : Int32) (hb hby at_26) (by decide) ?_
            refine XT.iconstV X6.here hx rfl (1 : Int32) (hb hby at_27) (by decide) ?_
            refine st8 _ ?_
            refine XS.dup X8.here hx rfl (hb hby at_29) rfl rfl ?_
            refine XT.iconstV X8.here hx rfl (2 : Int32) (hb hby at_30) (by decide) ?_
            show oS p e below T8 (mkF m 31 #[iv p0, iv p1, iv p2, iv p3, iv p4, iv (own_n nn), rv b1, .unset, .unset, .unset, .unset, .unset, .unset, .unset, .unset, .unset, .unset, .unset, .unset, .unset, .unset, .unset, .unset, .unset, .unset, .unset] [(.int 2), (.ref b3), (.ref b3)]) _
            refine XT.iconstV X8.here hx rfl (2 : Int32) (hb hby at_31) (by decide) ?_
            refine st10 _ ?_
            refine XS.dup X10.here hx rfl (hb hby at_33) rfl rfl ?_
            refine XT.iconstV X10.here hx rfl (3 : Int32) (hb hby at_34) (by decide) ?_
            refine XT.iconstV X10.here hx rfl (3 : Int32) (hb hby at_35) (by decide) ?_
            refine st12 _ ?_
            refine XS.astore X12.here hx rfl (hb hby at_37) rfl rfl (l' := #[iv p0, iv p1, iv p2, iv p3, iv p4, iv (own_n nn), rv b1, rv b3, .unset, .unset, .unset, .unset, .unset, .unset, .unset, .unset, .unset, .unset, .unset, .unset, .unset, .unset, .unset, .unset, .unset, .unset]) rfl ?_
            refine XS.iload X12.here hx rfl (hb hby at_39) rfl ?_
            show oS p e below T12 (mkF m 41 #[iv p0, iv p1, iv p2, iv p3, iv p4, iv (own_n nn), rv b1, rv b3, .unset, .unset, .unset, .unset, .unset, .unset, .unset, .unset, .unset, .unset, .unset, .unset, .unset, .unset, .unset, .unset, .unset, .unset] [(.int (own_n nn))]) _
            refine XS.istore X12.here hx rfl (hb hby at_41) rfl (l' := #[iv p0, iv p1, iv p2, iv p3, iv p4, iv (own_n nn), rv b1, rv b3, iv (own_n nn), .unset, .unset, .unset, .unset, .unset, .unset, .unset, .unset, .unset, .unset, .unset, .unset, .unset, .unset, .unset, .unset, .unset]) rfl ?_
            refine XT.iconstV X12.here hx rfl (1 : Int32) (hb hby at_43) (by decide) ?_
            refine XS.istore X12.here hx rfl (hb hby at_44) rfl (l' := #[iv p0, iv p1, iv p2, iv p3, iv p4, iv (own_n nn), rv b1, rv b3, iv (own_n nn), iv 1, .unset, .unset, .unset, .unset, .unset, .unset, .unset, .unset, .unset, .unset, .unset, .unset, .unset, .unset, .unset, .unset]) rfl ?_
            refine XS.iloadN X12.here hx rfl (hb hby at_46) rfl ?_
            refine XS.iload X12.here hx rfl (hb hby at_47) rfl ?_
            refine st13 _ ?_
            refine XS.istore X13.here hx rfl (hb hby at_52) rfl (l' := #[iv p0, iv p1, iv p2, iv p3, iv p4, iv (own_n nn), rv b1, rv b3, iv (own_n nn), iv 1, iv (own_n kq13), .unset, .unset, .unset, .unset, .unset, .unset, .unset, .unset, .unset, .unset, .unset, .unset, .unset, .unset, .unset]) rfl ?_
            refine XS.iloadN X13.here hx rfl (hb hby at_54) rfl ?_
            show oS p e below T13 (mkF m 55 #[iv p0, iv p1, iv p2, iv p3, iv p4, iv (own_n nn), rv b1, rv b3, iv (own_n nn), iv 1, iv (own_n kq13), .unset, .unset, .unset, .unset, .unset, .unset, .unset, .unset, .unset, .unset, .unset, .unset, .unset, .unset, .unset] [(.int p1)]) _
            refine XS.iload X13.here hx rfl (hb hby at_55) rfl ?_
            refine st14 _ ?_
            refine XS.istore X14.here hx rfl (hb hby at_60) rfl (l' := #[iv p0, iv p1, iv p2, iv p3, iv p4, iv (own_n nn), rv b1, rv b3, iv (own_n nn), iv 1, iv (own_n kq13), iv (own_n kq14), .unset, .unset, .unset, .unset, .unset, .unset, .unset, .unset, .unset, .unset, .unset, .unset, .unset, .unset]) rfl ?_
            refine XS.aload X14.here hx rfl (hb hby at_62) rfl rfl ?_
            refine XS.iload X14.here hx rfl (hb hby at_64) rfl ?_
            refine XS.iload X14.here hx rfl (hb hby at_66) rfl ?_
            refine st19 _ ?_
            refine XS.istore X19.here hx rfl (hb hby at_71) rfl (l' := #[iv p0, iv p1, iv p2, iv p3, iv p4, iv (own_n nn), rv b1, rv b3, iv (own_n nn), iv 1, iv (own_n kq13), iv (own_n kq14), iv 1, .unset, .unset, .unset, .unset, .unset, .unset, .unset, .unset, .unset, .unset, .unset, .unset, .unset]) rfl ?_
            show oS p e below T19 (mkF m 73 #[iv p0, iv p1, iv p2, iv p3, iv p4, iv (own_n nn), rv b1, rv b3, iv (own_n nn), iv 1, iv (own_n kq13), iv (own_n kq14), iv 1, .unset, .unset, .unset, .unset, .unset, .unset, .unset, .unset, .unset, .unset, .unset, .unset, .unset] []) _
            refine XS.aload X19.here hx rfl (hb hby at_73) rfl rfl ?_
            refine XS.iload X19.here hx rfl (hb hby at_75) rfl ?_
            refine XS.iload X19.here hx rfl (hb hby at_77) rfl ?_
            refine st123 _ ?_
            refine XS.istore X123.here hx rfl (hb hby at_82) rfl (l' := #[iv p0, iv p1, iv p2, iv p3, iv p4, iv (own_n nn), rv b1, rv b3, iv (own_n nn), iv 1, iv (own_n kq13), iv (own_n kq14), iv 1, iv 1, .unset, .unset, .unset, .unset, .unset, .unset, .unset, .unset, .unset, .unset, .unset, .unset]) rfl ?_
            refine XS.iload X123.here hx rfl (hb hby at_84) rfl ?_
            refine XS.ifNo X123.here hx rfl (hb hby at_86) rfl (XT.i0_eq_f (by decide)) ?_
            refine XS.iload X123.here hx rfl (hb hby at_89) rfl ?_
            show oS p e below T123 (mkF m 91 #[iv p0, iv p1, iv p2, iv p3, iv p4, iv (own_n nn), rv b1, rv b3, iv (own_n nn), iv 1, iv (own_n kq13), iv (own_n kq14), iv 1, iv 1, .unset, .unset, .unset, .unset, .unset, .unset, .unset, .unset, .unset, .unset, .unset, .unset] [(.int (own_n nn))]) _
            refine XT.iconstV X123.here hx rfl (1 : Int32) (hb hby at_91) (by decide) ?_
            refine XS.isub X123.here hx rfl (hb hby at_92) rfl ?_
            refine XS.istore X123.here hx rfl (hb hby at_93) rfl (l' := #[iv p0, iv p1, iv p2, iv p3, iv p4, iv (own_n nn), rv b1, rv b3, iv (((own_n nn) - (1 : Int32))), iv 1, iv (own_n kq13), iv (own_n kq14), iv 1, iv 1, .unset, .unset, .unset, .unset, .unset, .unset, .unset, .unset, .unset, .unset, .unset, .unset]) rfl ?_
            refine XS.iload X123.here hx rfl (hb hby at_95) rfl ?_
            refine XS.ifNo X123.here hx rfl (hb hby at_97) rfl (XT.i0_eq_f (by decide)) ?_
            refine XS.iload X123.here hx rfl (hb hby at_100) rfl ?_
            refine XS.iload X123.here hx rfl (hb hby at_102) rfl ?_
            refine XS.icmpNo X123.here hx rfl (hb hby at_104) rfl (XT.ii_ne_f (by decide)) ?_
            show oS p e below T123 (mkF m 107 #[iv p0, iv p1, iv p2, iv p3, iv p4, iv (own_n nn), rv b1, rv b3, iv (((own_n nn) - (1 : Int32))), iv 1, iv (own_n kq13), iv (own_n kq14), iv 1, iv 1, .unset, .unset, .unset, .unset, .unset, .unset, .unset, .unset, .unset, .unset, .unset, .unset] []) _
            refine XS.aload X123.here hx rfl (hb hby at_107) rfl rfl ?_
            refine st125 _ ?_
            refine XS.iload X125.here hx rfl (hb hby at_112) rfl ?_
            refine XS.icmpNo X125.here hx rfl (hb hby at_114) rfl (XT.ii_ne_f rfl) ?_
            refine XT.iconstV X125.here hx rfl (1 : Int32) (hb hby at_117) (by decide) ?_
            refine XS.goto X125.here hx rfl (pc0 := 118) (pc' := 122) rfl (hb hby at_118) (by decide) (by decide) ?_
            refine XS.istore X125.here hx rfl (hb hby at_122) rfl (l' := #[iv p0, iv p1, iv p2, iv p3, iv p4, iv (own_n nn), rv b1, rv b3, iv (((own_n nn) - (1 : Int32))), iv 1, iv (own_n kq13), iv (own_n kq14), iv 1, iv 1, .unset, .unset, .unset, .unset, .unset, .unset, .unset, .unset, .unset, .unset, .unset, .unset]) rfl ?_
            refine XS.iloadN X125.here hx rfl (hb hby at_124) rfl ?_
            show oS p e below T125 (mkF m 125 #[iv p0, iv p1, iv p2, iv p3, iv p4, iv (own_n nn), rv b1, rv b3, iv (((own_n nn) - (1 : Int32))), iv 1, iv (own_n kq13), iv (own_n kq14), iv 1, iv 1, .unset, .unset, .unset, .unset, .unset, .unset, .unset, .unset, .unset, .unset, .unset, .unset] [(.int p2)]) _
            refine XS.iload X125.here hx rfl (hb hby at_125) rfl ?_
            refine st127 _ ?_
            refine XS.istore X127.here hx rfl (hb hby at_130) rfl (l' := #[iv p0, iv p1, iv p2, iv p3, iv p4, iv (own_n nn), rv b1, rv b3, iv (((own_n nn) - (1 : Int32))), iv 1, iv (own_n kq13), iv (own_n kq14), iv 1, iv 1, iv (own_n kq127), .unset, .unset, .unset, .unset, .unset, .unset, .unset, .unset, .unset, .unset, .unset]) rfl ?_
            refine XS.iloadN X127.here hx rfl (hb hby at_132) rfl ?_
            refine XS.iload X127.here hx rfl (hb hby at_133) rfl ?_
            refine st128 _ ?_
            refine XS.istore X128.here hx rfl (hb hby at_138) rfl (l' := #[iv p0, iv p1, iv p2, iv p3, iv p4, iv (own_n nn), rv b1, rv b3, iv (((own_n nn) - (1 : Int32))), iv 1, iv (own_n kq13), iv (own_n kq14), iv 1, iv 1, iv (own_n kq127), iv (own_n kq128), .unset, .unset, .unset, .unset, .unset, .unset, .unset, .unset, .unset, .unset]) rfl ?_
            refine XS.aload X128.here hx rfl (hb hby at_140) rfl rfl ?_
            show oS p e below T128 (mkF m 142 #[iv p0, iv p1, iv p2, iv p3, iv p4, iv (own_n nn), rv b1, rv b3, iv (((own_n nn) - (1 : Int32))), iv 1, iv (own_n kq13), iv (own_n kq14), iv 1, iv 1, iv (own_n kq127), iv (own_n kq128), .unset, .unset, .unset, .unset, .unset, .unset, .unset, .unset, .unset, .unset] [(.ref b1)]) _
            refine XS.iload X128.here hx rfl (hb hby at_142) rfl ?_
            refine XS.iload X128.here hx rfl (hb hby at_144) rfl ?_
            refine st131 _ ?_
            refine XS.istore X131.here hx rfl (hb hby at_149) rfl (l' := #[iv p0, iv p1, iv p2, iv p3, iv p4, iv (own_n nn), rv b1, rv b3, iv (((own_n nn) - (1 : Int32))), iv 1, iv (own_n kq13), iv (own_n kq14), iv 1, iv 1, iv (own_n kq127), iv (own_n kq128), iv 1, .unset, .unset, .unset, .unset, .unset, .unset, .unset, .unset, .unset]) rfl ?_
            refine XS.aload X131.here hx rfl (hb hby at_151) rfl rfl ?_
            refine XS.iload X131.here hx rfl (hb hby at_153) rfl ?_
            refine XS.iload X131.here hx rfl (hb hby at_155) rfl ?_
            refine st179 _ ?_
            show oS p e below T179 (mkF m 160 #[iv p0, iv p1, iv p2, iv p3, iv p4, iv (own_n nn), rv b1, rv b3, iv (((own_n nn) - (1 : Int32))), iv 1, iv (own_n kq13), iv (own_n kq14), iv 1, iv 1, iv (own_n kq127), iv (own_n kq128), iv 1, .unset, .unset, .unset, .unset, .unset, .unset, .unset, .unset, .unset] [(.int 1)]) _
            refine XS.istore X179.here hx rfl (hb hby at_160) rfl (l' := #[iv p0, iv p1, iv p2, iv p3, iv p4, iv (own_n nn), rv b1, rv b3, iv (((own_n nn) - (1 : Int32))), iv 1, iv (own_n kq13), iv (own_n kq14), iv 1, iv 1, iv (own_n kq127), iv (own_n kq128), iv 1, iv 1, .unset, .unset, .unset, .unset, .unset, .unset, .unset, .unset]) rfl ?_
            refine XS.iload X179.here hx rfl (hb hby at_162) rfl ?_
            refine XS.ifNo X179.here hx rfl (hb hby at_164) rfl (XT.i0_eq_f (by decide)) ?_
            refine XS.iload X179.here hx rfl (hb hby at_167) rfl ?_
            refine XT.iconstV X179.here hx rfl (1 : Int32) (hb hby at_169) (by decide) ?_
            refine XS.isub X179.here hx rfl (hb hby at_170) rfl ?_
            refine XS.istore X179.here hx rfl (hb hby at_171) rfl (l' := #[iv p0, iv p1, iv p2, iv p3, iv p4, iv (own_n nn), rv b1, rv b3, iv ((((own_n nn) - (1 : Int32)) - (1 : Int32))), iv 1, iv (own_n kq13), iv (own_n kq14), iv 1, iv 1, iv (own_n kq127), iv (own_n kq128), iv 1, iv 1, .unset, .unset, .unset, .unset, .unset, .unset, .unset, .unset]) rfl ?_
            refine XS.iload X179.here hx rfl (hb hby at_173) rfl ?_
            show oS p e below T179 (mkF m 175 #[iv p0, iv p1, iv p2, iv p3, iv p4, iv (own_n nn), rv b1, rv b3, iv ((((own_n nn) - (1 : Int32)) - (1 : Int32))), iv 1, iv (own_n kq13), iv (own_n kq14), iv 1, iv 1, iv (own_n kq127), iv (own_n kq128), iv 1, iv 1, .unset, .unset, .unset, .unset, .unset, .unset, .unset, .unset] [(.int 1)]) _
            refine XS.ifNo X179.here hx rfl (hb hby at_175) rfl (XT.i0_eq_f (by decide)) ?_
            refine XS.iload X179.here hx rfl (hb hby at_178) rfl ?_
            refine XS.iload X179.here hx rfl (hb hby at_180) rfl ?_
            refine XS.icmpNo X179.here hx rfl (hb hby at_182) rfl (XT.ii_ne_f (by decide)) ?_
            refine XS.aload X179.here hx rfl (hb hby at_185) rfl rfl ?_
            refine st181 _ ?_
            refine XS.iload X181.here hx rfl (hb hby at_190) rfl ?_
            refine XS.icmpNo X181.here hx rfl (hb hby at_192) rfl (XT.ii_ne_f rfl) ?_
            show oS p e below T181 (mkF m 195 #[iv p0, iv p1, iv p2, iv p3, iv p4, iv (own_n nn), rv b1, rv b3, iv ((((own_n nn) - (1 : Int32)) - (1 : Int32))), iv 1, iv (own_n kq13), iv (own_n kq14), iv 1, iv 1, iv (own_n kq127), iv (own_n kq128), iv 1, iv 1, .unset, .unset, .unset, .unset, .unset, .unset, .unset, .unset] []) _
            refine XT.iconstV X181.here hx rfl (1 : Int32) (hb hby at_195) (by decide) ?_
            refine XS.goto X181.here hx rfl (pc0 := 196) (pc' := 200) rfl (hb hby at_196) (by decide) (by decide) ?_
            refine XS.istore X181.here hx rfl (hb hby at_200) rfl (l' := #[iv p0, iv p1, iv p2, iv p3, iv p4, iv (own_n nn), rv b1, rv b3, iv ((((own_n nn) - (1 : Int32)) - (1 : Int32))), iv 1, iv (own_n kq13), iv (own_n kq14), iv 1, iv 1, iv (own_n kq127), iv (own_n kq128), iv 1, iv 1, .unset, .unset, .unset, .unset, .unset, .unset, .unset, .unset]) rfl ?_
            refine XS.iloadN X181.here hx rfl (hb hby at_202) rfl ?_
            refine XS.iload X181.here hx rfl (hb hby at_203) rfl ?_
            refine st183 _ ?_
            refine XS.istore X183.here hx rfl (hb hby at_208) rfl (l' := #[iv p0, iv p1, iv p2, iv p3, iv p4, iv (own_n nn), rv b1, rv b3, iv ((((own_n nn) - (1 : Int32)) - (1 : Int32))), iv 1, iv (own_n kq13), iv (own_n kq14), iv 1, iv 1, iv (own_n kq127), iv (own_n kq128), iv 1, iv 1, iv (own_n kq183), .unset, .unset, .unset, .unset, .unset, .unset, .unset]) rfl ?_
            refine XS.iloadN X183.here hx rfl (hb hby at_210) rfl ?_
            show oS p e below T183 (mkF m 211 #[iv p0, iv p1, iv p2, iv p3, iv p4, iv (own_n nn), rv b1, rv b3, iv ((((own_n nn) - (1 : Int32)) - (1 : Int32))), iv 1, iv (own_n kq13), iv (own_n kq14), iv 1, iv 1, iv (own_n kq127), iv (own_n kq128), iv 1, iv 1, iv (own_n kq183), .unset, .unset, .unset, .unset, .unset, .unset, .unset] [(.int p3)]) _
            refine XS.iload X183.here hx rfl (hb hby at_211) rfl ?_
            refine st184 _ ?_
            refine XS.istore X184.here hx rfl (hb hby at_216) rfl (l' := #[iv p0, iv p1, iv p2, iv p3, iv p4, iv (own_n nn), rv b1, rv b3, iv ((((own_n nn) - (1 : Int32)) - (1 : Int32))), iv 1, iv (own_n kq13), iv (own_n kq14), iv 1, iv 1, iv (own_n kq127), iv (own_n kq128), iv 1, iv 1, iv (own_n kq183), iv (own_n kq184), .unset, .unset, .unset, .unset, .unset, .unset]) rfl ?_
            refine XS.aload X184.here hx rfl (hb hby at_218) rfl rfl ?_
            refine XS.iload X184.here hx rfl (hb hby at_220) rfl ?_
            refine XS.iload X184.here hx rfl (hb hby at_222) rfl ?_
            refine st187 _ ?_
            refine XS.istore X187.here hx rfl (hb hby at_227) rfl (l' := #[iv p0, iv p1, iv p2, iv p3, iv p4, iv (own_n nn), rv b1, rv b3, iv ((((own_n nn) - (1 : Int32)) - (1 : Int32))), iv 1, iv (own_n kq13), iv (own_n kq14), iv 1, iv 1, iv (own_n kq127), iv (own_n kq128), iv 1, iv 1, iv (own_n kq183), iv (own_n kq184), iv 0, .unset, .unset, .unset, .unset, .unset]) rfl ?_
            show oS p e below T187 (mkF m 229 #[iv p0, iv p1, iv p2, iv p3, iv p4, iv (own_n nn), rv b1, rv b3, iv ((((own_n nn) - (1 : Int32)) - (1 : Int32))), iv 1, iv (own_n kq13), iv (own_n kq14), iv 1, iv 1, iv (own_n kq127), iv (own_n kq128), iv 1, iv 1, iv (own_n kq183), iv (own_n kq184), iv 0, .unset, .unset, .unset, .unset, .unset] []) _
            refine XS.aload X187.here hx rfl (hb hby at_229) rfl rfl ?_
            refine XS.iload X187.here hx rfl (hb hby at_231) rfl ?_
            refine XS.iload X187.here hx rfl (hb hby at_233) rfl ?_
            refine st189 _ ?_
            refine XS.istore X189.here hx rfl (hb hby at_238) rfl (l' := #[iv p0, iv p1, iv p2, iv p3, iv p4, iv (own_n nn), rv b1, rv b3, iv ((((own_n nn) - (1 : Int32)) - (1 : Int32))), iv 1, iv (own_n kq13), iv (own_n kq14), iv 1, iv 1, iv (own_n kq127), iv (own_n kq128), iv 1, iv 1, iv (own_n kq183), iv (own_n kq184), iv 0, iv 0, .unset, .unset, .unset, .unset]) rfl ?_
            refine XS.iload X189.here hx rfl (hb hby at_240) rfl ?_
            refine XS.ifYes X189.here hx rfl (pc0 := 242) (pc' := 251) rfl (hb hby at_242) rfl (XT.i0_eq_t (by decide)) (by decide) (by decide) ?_
            refine XS.iload X189.here hx rfl (hb hby at_251) rfl ?_
            show oS p e below T189 (mkF m 253 #[iv p0, iv p1, iv p2, iv p3, iv p4, iv (own_n nn), rv b1, rv b3, iv ((((own_n nn) - (1 : Int32)) - (1 : Int32))), iv 1, iv (own_n kq13), iv (own_n kq14), iv 1, iv 1, iv (own_n kq127), iv (own_n kq128), iv 1, iv 1, iv (own_n kq183), iv (own_n kq184), iv 0, iv 0, .unset, .unset, .unset, .unset] [(.int 1)]) _
            refine XS.ifNo X189.here hx rfl (hb hby at_253) rfl (XT.i0_eq_f (by decide)) ?_
            refine XS.iload X189.here hx rfl (hb hby at_256) rfl ?_
            refine XS.iload X189.here hx rfl (hb hby at_258) rfl ?_
            refine XS.icmpNo X189.here hx rfl (hb hby at_260) rfl (XT.ii_ne_f (by decide)) ?_
            refine XS.aload X189.here hx rfl (hb hby at_263) rfl rfl ?_
            refine st190 _ ?_
            refine XS.iload X190.here hx rfl (hb hby at_268) rfl ?_
            refine XS.icmpNo X190.here hx rfl (hb hby at_270) rfl (XT.ii_ne_f rfl) ?_
            show oS p e below T190 (mkF m 273 #[iv p0, iv p1, iv p2, iv p3, iv p4, iv (own_n nn), rv b1, rv b3, iv ((((own_n nn) - (1 : Int32)) - (1 : Int32))), iv 1, iv (own_n kq13), iv (own_n kq14), iv 1, iv 1, iv (own_n kq127), iv (own_n kq128), iv 1, iv 1, iv (own_n kq183), iv (own_n kq184), iv 0, iv 0, .unset, .unset, .unset, .unset] []) _
            refine XT.iconstV X190.here hx rfl (1 : Int32) (hb hby at_273) (by decide) ?_
            refine XS.goto X190.here hx rfl (pc0 := 274) (pc' := 278) rfl (hb hby at_274) (by decide) (by decide) ?_
            refine XS.istore X190.here hx rfl (hb hby at_278) rfl (l' := #[iv p0, iv p1, iv p2, iv p3, iv p4, iv (own_n nn), rv b1, rv b3, iv ((((own_n nn) - (1 : Int32)) - (1 : Int32))), iv 1, iv (own_n kq13), iv (own_n kq14), iv 1, iv 1, iv (own_n kq127), iv (own_n kq128), iv 1, iv 1, iv (own_n kq183), iv (own_n kq184), iv 0, iv 0, .unset, .unset, .unset, .unset]) rfl ?_
            refine XS.iload X190.here hx rfl (hb hby at_280) rfl ?_
            refine XS.iload X190.here hx rfl (hb hby at_282) rfl ?_
            refine st192 _ ?_
            refine XS.istore X192.here hx rfl (hb hby at_287) rfl (l' := #[iv p0, iv p1, iv p2, iv p3, iv p4, iv (own_n nn), rv b1, rv b3, iv ((((own_n nn) - (1 : Int32)) - (1 : Int32))), iv 1, iv (own_n kq13), iv (own_n kq14), iv 1, iv 1, iv (own_n kq127), iv (own_n kq128), iv 1, iv 1, iv (own_n kq183), iv (own_n kq184), iv 0, iv 0, iv (own_n kq192), .unset, .unset, .unset]) rfl ?_
            refine XS.iload X192.here hx rfl (hb hby at_289) rfl ?_
            show oS p e below T192 (mkF m 291 #[iv p0, iv p1, iv p2, iv p3, iv p4, iv (own_n nn), rv b1, rv b3, iv ((((own_n nn) - (1 : Int32)) - (1 : Int32))), iv 1, iv (own_n kq13), iv (own_n kq14), iv 1, iv 1, iv (own_n kq127), iv (own_n kq128), iv 1, iv 1, iv (own_n kq183), iv (own_n kq184), iv 0, iv 0, iv (own_n kq192), .unset, .unset, .unset] [(.int p4)]) _
            refine XS.iload X192.here hx rfl (hb hby at_291) rfl ?_
            refine st193 _ ?_
            refine XS.istore X193.here hx rfl (hb hby at_296) rfl (l' := #[iv p0, iv p1, iv p2, iv p3, iv p4, iv (own_n nn), rv b1, rv b3, iv ((((own_n nn) - (1 : Int32)) - (1 : Int32))), iv 1, iv (own_n kq13), iv (own_n kq14), iv 1, iv 1, iv (own_n kq127), iv (own_n kq128), iv 1, iv 1, iv (own_n kq183), iv (own_n kq184), iv 0, iv 0, iv (own_n kq192), iv (own_n kq193), .unset, .unset]) rfl ?_
            refine XS.aload X193.here hx rfl (hb hby at_298) rfl rfl ?_
            refine XS.iload X193.here hx rfl (hb hby at_300) rfl ?_
            refine XS.iload X193.here hx rfl (hb hby at_302) rfl ?_
            refine st194 _ ?_
            refine XS.istore X194.here hx rfl (hb hby at_307) rfl (l' := #[iv p0, iv p1, iv p2, iv p3, iv p4, iv (own_n nn), rv b1, rv b3, iv ((((own_n nn) - (1 : Int32)) - (1 : Int32))), iv 1, iv (own_n kq13), iv (own_n kq14), iv 1, iv 1, iv (own_n kq127), iv (own_n kq128), iv 1, iv 1, iv (own_n kq183), iv (own_n kq184), iv 0, iv 0, iv (own_n kq192), iv (own_n kq193), iv 0, .unset]) rfl ?_
            show oS p e below T194 (mkF m 309 #[iv p0, iv p1, iv p2, iv p3, iv p4, iv (own_n nn), rv b1, rv b3, iv ((((own_n nn) - (1 : Int32)) - (1 : Int32))), iv 1, iv (own_n kq13), iv (own_n kq14), iv 1, iv 1, iv (own_n kq127), iv (own_n kq128), iv 1, iv 1, iv (own_n kq183), iv (own_n kq184), iv 0, iv 0, iv (own_n kq192), iv (own_n kq193), iv 0, .unset] []) _
            refine XS.aload X194.here hx rfl (hb hby at_309) rfl rfl ?_
            refine XS.iload X194.here hx rfl (hb hby at_311) rfl ?_
            refine XS.iload X194.here hx rfl (hb hby at_313) rfl ?_
            refine st196 _ ?_
            refine XS.istore X196.here hx rfl (hb hby at_318) rfl (l' := #[iv p0, iv p1, iv p2, iv p3, iv p4, iv (own_n nn), rv b1, rv b3, iv ((((own_n nn) - (1 : Int32)) - (1 : Int32))), iv 1, iv (own_n kq13), iv (own_n kq14), iv 1, iv 1, iv (own_n kq127), iv (own_n kq128), iv 1, iv 1, iv (own_n kq183), iv (own_n kq184), iv 0, iv 0, iv (own_n kq192), iv (own_n kq193), iv 0, iv 0]) rfl ?_
            refine XS.iload X196.here hx rfl (hb hby at_320) rfl ?_
            refine XS.ifYes X196.here hx rfl (pc0 := 322) (pc' := 331) rfl (hb hby at_322) rfl (XT.i0_eq_t (by decide)) (by decide) (by decide) ?_
            refine XS.iload X196.here hx rfl (hb hby at_331) rfl ?_
            show oS p e below T196 (mkF m 333 #[iv p0, iv p1, iv p2, iv p3, iv p4, iv (own_n nn), rv b1, rv b3, iv ((((own_n nn) - (1 : Int32)) - (1 : Int32))), iv 1, iv (own_n kq13), iv (own_n kq14), iv 1, iv 1, iv (own_n kq127), iv (own_n kq128), iv 1, iv 1, iv (own_n kq183), iv (own_n kq184), iv 0, iv 0, iv (own_n kq192), iv (own_n kq193), iv 0, iv 0] [(.int 1)]) _
            refine XS.ifNo X196.here hx rfl (hb hby at_333) rfl (XT.i0_eq_f (by decide)) ?_
            refine XS.iload X196.here hx rfl (hb hby at_336) rfl ?_
            refine XS.iload X196.here hx rfl (hb hby at_338) rfl ?_
            refine XS.icmpNo X196.here hx rfl (hb hby at_340) rfl (XT.ii_ne_f (by decide)) ?_
            refine XS.aload X196.here hx rfl (hb hby at_343) rfl rfl ?_
            refine st197 _ ?_
            refine XS.iload X197.here hx rfl (hb hby at_348) rfl ?_
            refine XS.icmpNo X197.here hx rfl (hb hby at_350) rfl (XT.ii_ne_f rfl) ?_
            show oS p e below T197 (mkF m 353 #[iv p0, iv p1, iv p2, iv p3, iv p4, iv (own_n nn), rv b1, rv b3, iv ((((own_n nn) - (1 : Int32)) - (1 : Int32))), iv 1, iv (own_n kq13), iv (own_n kq14), iv 1, iv 1, iv (own_n kq127), iv (own_n kq128), iv 1, iv 1, iv (own_n kq183), iv (own_n kq184), iv 0, iv 0, iv (own_n kq192), iv (own_n kq193), iv 0, iv 0] []) _
            refine XT.iconstV X197.here hx rfl (1 : Int32) (hb hby at_353) (by decide) ?_
            refine XS.goto X197.here hx rfl (pc0 := 354) (pc' := 358) rfl (hb hby at_354) (by decide) (by decide) ?_
            refine XS.istore X197.here hx rfl (hb hby at_358) rfl (l' := #[iv p0, iv p1, iv p2, iv p3, iv p4, iv (own_n nn), rv b1, rv b3, iv ((((own_n nn) - (1 : Int32)) - (1 : Int32))), iv 1, iv (own_n kq13), iv (own_n kq14), iv 1, iv 1, iv (own_n kq127), iv (own_n kq128), iv 1, iv 1, iv (own_n kq183), iv (own_n kq184), iv 0, iv 0, iv (own_n kq192), iv (own_n kq193), iv 0, iv 0]) rfl ?_
            refine XS.iload X197.here hx rfl (hb hby at_360) rfl ?_
            exact kz)
          obtain ⟨fs, hr, hrun, hended, hW, hsame⟩ := X197.leave (v := some (.int 1)) (fun h => by rw [Bd.returns] at h; cases h)
          refine ⟨_, _, pre0 _ (S199 _ ?_), hrun, hended, _, _, rfl, ?_, ⟨_, rfl⟩, hW, hsame.mono (by decide) (by decide)⟩
          · exact retN X197 hx (t := .boolean) Bd.returns (by simp) (hb hby at_362) hr
          · show Qrm0s Z p0 p1 p2 p3 p4 nn h0 n0 _ T197.heap _
            rw [e197]
            exact ⟨rfl, N197⟩
        · have N194 := Fr.app N193 N194q
          have e194 : T194.heap = T194.heap := rfl
          have Zk194 : n0 ≤ T194.heap.size := Nat.le_trans Zk187 K194.1
          have Kk194 : Keep h0 T194.heap [] := Kk187.trans K194 (allS (Or.inr sz_b1) (allS (Or.inr sz_b2') all0))
          have f200 := (f188.keep K194 (ninS (Ne.symm ne_b1_b3) (ninS (Ne.symm ne_b2'_b3) nin0)))
          obtain ⟨_, T201, Lc201, X201, hQ201, st201⟩ := own_callS (W := 0) (y := mN5) X194 hx hZ hown (hw _ (own_w 30 rfl)) (hw _ (own_w 31 rfl)) (hw _ (own_w 16 rfl)) (hw _ (own_w 32 rfl)) (by decide) (rmRef1 l Z av0 hw [] b3 k3 (own_L (own_L own_n (own_n kq13) (own_n kq14)) ((own_L own_n (own_n kq13) (own_n kq14)) kq127) ((own_L own_n (own_n kq13) (own_n kq14)) kq128)) kq192 kq193 T194.heap n0 Zk194 f200 (Nat.lt_of_lt_of_le lq192 hnn) (Nat.lt_of_lt_of_le lq193 hnn) ge_b3 (fun q => rs194 ((RL179 _ lq192 _ lq193).mpr q))) (by decide) (by decide) (g := (mkF m 315 #[iv p0, iv p1, iv p2, iv p3, iv p4, iv (own_n nn), rv b1, rv b3, iv ((((own_n nn) - (1 : Int32)) - (1 : Int32))), iv 1, iv (own_n kq13), iv (own_n kq14), iv 1, iv 1, iv (own_n kq127), iv (own_n kq128), iv 1, iv 1, iv (own_n kq183), iv (own_n kq184), iv 0, iv 0, iv (own_n kq192), iv (own_n kq193), iv 1, .unset] [(.int (own_n kq193)), (.int (own_n kq192)), (.ref b3)])) rfl (by rw [hml]; rfl) (argsL := [(.ref b3), (.int (own_n kq192)), (.int (own_n kq193))]) (rest := []) (lenOf pd__III_Z rfl) rfl (hb hby at_315) rfl e194 (by decide : 3 + 0 ≤ _) (by decide : 10 + 0 ≤ _)
          obtain ⟨rfl, N201q, K201, B201⟩ := hQ201
          have N201 := Fr.app N194 N201q
          have e201 : T201.heap = T201.heap := rfl
          have Zk201 : n0 ≤ T201.heap.size := Nat.le_trans Zk194 K201.1
          have Kk201 : Keep h0 T201.heap [] := Kk194.trans K201 (allS (Or.inr sz_b3) all0)
          have RL201 := own_RL RL179 lq192 lq193
          have f202 := (C194.keep K201 (ninS ne_b1_b3 nin0))
          have f204 := ((f191.keep K194).keep K201)
          obtain ⟨_, T203, Lc203, X203, hQ203, st203⟩ := own_virtual (W := 0) (y := mN0) (z := mN0) X201 hx hZ hown (hw _ (own_w 33 rfl)) (hw _ (own_w 34 rfl)) (notFace_of_selects (args := #[]) (mvT hZ (hw _ (own_w 36 rfl)))) (hw _ (own_w 36 rfl)) (hw _ (own_w 35 rfl)) (hw _ (own_w 37 rfl)) (hw _ (own_w 2 rfl)) (by decide) (rmCount l Z av0 hw [] b1 ((((own_n nn) - (1 : Int32)) - (1 : Int32)) - (1 : Int32)) T201.heap n0 Zk201 f202) (by decide) (by decide) f204 (g := (mkF m 345 #[iv p0, iv p1, iv p2, iv p3, iv p4, iv (own_n nn), rv b1, rv b3, iv (((((own_n nn) - (1 : Int32)) - (1 : Int32)) - (1 : Int32))), iv 1, iv (own_n kq13), iv (own_n kq14), iv 1, iv 1, iv (own_n kq127), iv (own_n kq128), iv 1, iv 1, iv (own_n kq183), iv (own_n kq184), iv 0, iv 0, iv (own_n kq192), iv (own_n kq193), iv 1, iv 1] [(.ref b1)])) rfl (by rw [hml]; rfl) (argsL := []) (rest := []) (lenOf pd__I rfl) rfl (hb hby at_345) rfl e201 (by decide : 3 + 0 ≤ _) (by decide : 10 + 0 ≤ _)
          obtain ⟨rfl, N203q, hh203⟩ := hQ203
          have N203 := Fr.app N201 N203q
          have e203 : T203.heap = T201.heap := hh203
          have S205 : ∀ tz, oS p e below T203 (mkF m 362 #[iv p0, iv p1, iv p2, iv p3, iv p4, iv (own_n nn), rv b1, rv b3, iv (((((own_n nn) - (1 : Int32)) - (1 : Int32)) - (1 : Int32))), iv 1, iv (own_n kq13), iv (own_n kq14), iv 1, iv 1, iv (own_n kq127), iv (own_n kq128), iv 1, iv 1, iv (own_n kq183), iv (own_n kq184), iv 0, iv 0, iv (own_n kq192), iv (own_n kq193), iv 1, iv 1] [(.int 1)]) tz → oS p e below s₁ (mkF m 0 #[iv p0, iv p1, iv p2, iv p3, iv p4, .unset, .unset, .unset, .unset, .unset, .unset, .unset, .unset, .unset, .unset, .unset, .unset, .unset, .unset, .unset, .unset, .unset, .unset, .unset, .unset, .unset] []) tz := fun tz kz => id (by
            show oS p e below s₁ (mkF m 0 #[iv p0, iv p1, iv p2, iv p3, iv p4, .unset, .unset, .unset, .unset, .unset, .unset, .unset, .unset, .unset, .unset, .unset, .unset, .unset, .unset, .unset, .unset, .unset, .unset, .unset, .unset, .unset] []) _
            refine XT.iconstV X0.here hx rfl (1 : Int32) (hb hby at_0) (by decide) ?_
            refine XS.iloadN X0.here hx rfl (hb hby at_1) rfl ?_
            refine XT.iconstV X0.here hx rfl (3 : Int32) (hb hby at_2) (by decide) ?_
            refine XS.iand X0.here hx rfl (hb hby at_3) rfl ?_
            refine XS.iadd X0.here hx rfl (hb hby at_4) rfl ?_
            show oS p e below s₁ (mkF m 5 #[iv p0, iv p1, iv p2, iv p3, iv p4, .unset, .unset, .unset, .unset, .unset, .unset, .unset, .unset, .unset, .unset, .unset, .unset, .unset, .unset, .unset, .unset, .unset, .unset, .unset, .unset, .unset] [(.int ((1 : Int32) + (p0 &&& (3 : Int32))))]) _
            rw [hn]
            show oS p e below s₁ (mkF m 5 #[iv p0, iv p1, iv p2, iv p3, iv p4, .unset, .unset, .unset, .unset, .unset, .unset, .unset, .unset, .unset, .unset, .unset, .unset, .unset, .unset, .unset, .unset, .unset, .unset, .unset, .unset, .unset] [(.int (own_n nn))]) _
            refine XS.istore X0.here hx rfl (hb hby at_5) rfl (l' := #[iv p0, iv p1, iv p2, iv p3, iv p4, iv (own_n nn), .unset, .unset, .unset, .unset, .unset, .unset, .unset, .unset, .unset, .unset, .unset, .unset, .unset, .unset, .unset, .unset, .unset, .unset, .unset, .unset]) rfl ?_
            refine st1 _ ?_
            show oS p e below T1 (mkF m 10 #[iv p0, iv p1, iv p2, iv p3, iv p4, iv (own_n nn), .unset, .unset, .unset, .unset, .unset, .unset, .unset, .unset, .unset, .unset, .unset, .unset, .unset, .unset, .unset, .unset, .unset, .unset, .unset, .unset] [(.ref b1)]) _
            refine XS.dup X1.here hx rfl (hb hby at_10) rfl rfl ?_
            refine XS.iload X1.here hx rfl (hb hby at_11) rfl ?_
            refine st2 _ ?_
            refine XS.astore X2.here hx rfl (hb hby at_16) rfl rfl (l' := #[iv p0, iv p1, iv p2, iv p3, iv p4, iv (own_n nn), rv b1, .unset, .unset, .unset, .unset, .unset, .unset, .unset, .unset, .unset, .unset, .unset, .unset, .unset, .unset, .unset, .unset, .unset, .unset, .unset]) rfl ?_
            refine XT.iconstV X2.here hx rfl (4 : Int32) (hb hby at_18) (by decide) ?_
            refine st3 _ ?_
            refine XS.dup X3.here hx rfl (hb hby at_21) rfl rfl ?_
            refine XT.iconstV X3.here hx rfl (0 : Int32) (hb hby at_22) (by decide) ?_
            show oS p e below T3 (mkF m 23 #[iv p0, iv p1, iv p2, iv p3, iv p4, iv (own_n nn), rv b1, .unset, .unset, .unset, .unset, .unset, .unset, .unset, .unset, .unset, .unset, .unset, .unset, .unset, .unset, .unset, .unset, .unset, .unset, .unset] [(.int 0), (.ref b3), (.ref b3)]) _
            refine XT.iconstV X3.here hx rfl (0 : Int32) (hb hby at_23) (by decide) ?_
            refine st6 _ ?_
            refine XS.dup X6.here hx rfl (hb hby at_25) rfl rfl ?_
            refine XT.iconstV X6.here hx rfl (1 : Int32) (hb hby at_26) (by decide) ?_
            refine XT.iconstV X6.here hx rfl (1 : Int32) (hb hby at_27) (by decide) ?_
            refine st8 _ ?_
            refine XS.dup X8.here hx rfl (hb hby at_29) rfl rfl ?_
            refine XT.iconstV X8.here hx rfl (2 : Int32) (hb hby at_30) (by decide) ?_
            show oS p e below T8 (mkF m 31 #[iv p0, iv p1, iv p2, iv p3, iv p4, iv (own_n nn), rv b1, .unset, .unset, .unset, .unset, .unset, .unset, .unset, .unset, .unset, .unset, .unset, .unset, .unset, .unset, .unset, .unset, .unset, .unset, .unset] [(.int 2), (.ref b3), (.ref b3)]) _
            refine XT.iconstV X8.here hx rfl (2 : Int32) (hb hby at_31) (by decide) ?_
            refine st10 _ ?_
            refine XS.dup X10.here hx rfl (hb hby at_33) rfl rfl ?_
            refine XT.iconstV X10.here hx rfl (3 : Int32) (hb hby at_34) (by decide) ?_
            refine XT.iconstV X10.here hx rfl (3 : Int32) (hb hby at_35) (by decide) ?_
            refine st12 _ ?_
            refine XS.astore X12.here hx rfl (hb hby at_37) rfl rfl (l' := #[iv p0, iv p1, iv p2, iv p3, iv p4, iv (own_n nn), rv b1, rv b3, .unset, .unset, .unset, .unset, .unset, .unset, .unset, .unset, .unset, .unset, .unset, .unset, .unset, .unset, .unset, .unset, .unset, .unset]) rfl ?_
            refine XS.iload X12.here hx rfl (hb hby at_39) rfl ?_
            show oS p e below T12 (mkF m 41 #[iv p0, iv p1, iv p2, iv p3, iv p4, iv (own_n nn), rv b1, rv b3, .unset, .unset, .unset, .unset, .unset, .unset, .unset, .unset, .unset, .unset, .unset, .unset, .unset, .unset, .unset, .unset, .unset, .unset] [(.int (own_n nn))]) _
            refine XS.istore X12.here hx rfl (hb hby at_41) rfl (l' := #[iv p0, iv p1, iv p2, iv p3, iv p4, iv (own_n nn), rv b1, rv b3, iv (own_n nn), .unset, .unset, .unset, .unset, .unset, .unset, .unset, .unset, .unset, .unset, .unset, .unset, .unset, .unset, .unset, .unset, .unset]) rfl ?_
            refine XT.iconstV X12.here hx rfl (1 : Int32) (hb hby at_43) (by decide) ?_
            refine XS.istore X12.here hx rfl (hb hby at_44) rfl (l' := #[iv p0, iv p1, iv p2, iv p3, iv p4, iv (own_n nn), rv b1, rv b3, iv (own_n nn), iv 1, .unset, .unset, .unset, .unset, .unset, .unset, .unset, .unset, .unset, .unset, .unset, .unset, .unset, .unset, .unset, .unset]) rfl ?_
            refine XS.iloadN X12.here hx rfl (hb hby at_46) rfl ?_
            refine XS.iload X12.here hx rfl (hb hby at_47) rfl ?_
            refine st13 _ ?_
            refine XS.istore X13.here hx rfl (hb hby at_52) rfl (l' := #[iv p0, iv p1, iv p2, iv p3, iv p4, iv (own_n nn), rv b1, rv b3, iv (own_n nn), iv 1, iv (own_n kq13), .unset, .unset, .unset, .unset, .unset, .unset, .unset, .unset, .unset, .unset, .unset, .unset, .unset, .unset, .unset]) rfl ?_
            refine XS.iloadN X13.here hx rfl (hb hby at_54) rfl ?_
            show oS p e below T13 (mkF m 55 #[iv p0, iv p1, iv p2, iv p3, iv p4, iv (own_n nn), rv b1, rv b3, iv (own_n nn), iv 1, iv (own_n kq13), .unset, .unset, .unset, .unset, .unset, .unset, .unset, .unset, .unset, .unset, .unset, .unset, .unset, .unset, .unset] [(.int p1)]) _
            refine XS.iload X13.here hx rfl (hb hby at_55) rfl ?_
            refine st14 _ ?_
            refine XS.istore X14.here hx rfl (hb hby at_60) rfl (l' := #[iv p0, iv p1, iv p2, iv p3, iv p4, iv (own_n nn), rv b1, rv b3, iv (own_n nn), iv 1, iv (own_n kq13), iv (own_n kq14), .unset, .unset, .unset, .unset, .unset, .unset, .unset, .unset, .unset, .unset, .unset, .unset, .unset, .unset]) rfl ?_
            refine XS.aload X14.here hx rfl (hb hby at_62) rfl rfl ?_
            refine XS.iload X14.here hx rfl (hb hby at_64) rfl ?_
            refine XS.iload X14.here hx rfl (hb hby at_66) rfl ?_
            refine st19 _ ?_
            refine XS.istore X19.here hx rfl (hb hby at_71) rfl (l' := #[iv p0, iv p1, iv p2, iv p3, iv p4, iv (own_n nn), rv b1, rv b3, iv (own_n nn), iv 1, iv (own_n kq13), iv (own_n kq14), iv 1, .unset, .unset, .unset, .unset, .unset, .unset, .unset, .unset, .unset, .unset, .unset, .unset, .unset]) rfl ?_
            show oS p e below T19 (mkF m 73 #[iv p0, iv p1, iv p2, iv p3, iv p4, iv (own_n nn), rv b1, rv b3, iv (own_n nn), iv 1, iv (own_n kq13), iv (own_n kq14), iv 1, .unset, .unset, .unset, .unset, .unset, .unset, .unset, .unset, .unset, .unset, .unset, .unset, .unset] []) _
            refine XS.aload X19.here hx rfl (hb hby at_73) rfl rfl ?_
            refine XS.iload X19.here hx rfl (hb hby at_75) rfl ?_
            refine XS.iload X19.here hx rfl (hb hby at_77) rfl ?_
            refine st123 _ ?_
            refine XS.istore X123.here hx rfl (hb hby at_82) rfl (l' := #[iv p0, iv p1, iv p2, iv p3, iv p4, iv (own_n nn), rv b1, rv b3, iv (own_n nn), iv 1, iv (own_n kq13), iv (own_n kq14), iv 1, iv 1, .unset, .unset, .unset, .unset, .unset, .unset, .unset, .unset, .unset, .unset, .unset, .unset]) rfl ?_
            refine XS.iload X123.here hx rfl (hb hby at_84) rfl ?_
            refine XS.ifNo X123.here hx rfl (hb hby at_86) rfl (XT.i0_eq_f (by decide)) ?_
            refine XS.iload X123.here hx rfl (hb hby at_89) rfl ?_
            show oS p e below T123 (mkF m 91 #[iv p0, iv p1, iv p2, iv p3, iv p4, iv (own_n nn), rv b1, rv b3, iv (own_n nn), iv 1, iv (own_n kq13), iv (own_n kq14), iv 1, iv 1, .unset, .unset, .unset, .unset, .unset, .unset, .unset, .unset, .unset, .unset, .unset, .unset] [(.int (own_n nn))]) _
            refine XT.iconstV X123.here hx rfl (1 : Int32) (hb hby at_91) (by decide) ?_
            refine XS.isub X123.here hx rfl (hb hby at_92) rfl ?_
            refine XS.istore X123.here hx rfl (hb hby at_93) rfl (l' := #[iv p0, iv p1, iv p2, iv p3, iv p4, iv (own_n nn), rv b1, rv b3, iv (((own_n nn) - (1 : Int32))), iv 1, iv (own_n kq13), iv (own_n kq14), iv 1, iv 1, .unset, .unset, .unset, .unset, .unset, .unset, .unset, .unset, .unset, .unset, .unset, .unset]) rfl ?_
            refine XS.iload X123.here hx rfl (hb hby at_95) rfl ?_
            refine XS.ifNo X123.here hx rfl (hb hby at_97) rfl (XT.i0_eq_f (by decide)) ?_
            refine XS.iload X123.here hx rfl (hb hby at_100) rfl ?_
            refine XS.iload X123.here hx rfl (hb hby at_102) rfl ?_
            refine XS.icmpNo X123.here hx rfl (hb hby at_104) rfl (XT.ii_ne_f (by decide)) ?_
            show oS p e below T123 (mkF m 107 #[iv p0, iv p1, iv p2, iv p3, iv p4, iv (own_n nn), rv b1, rv b3, iv (((own_n nn) - (1 : Int32))), iv 1, iv (own_n kq13), iv (own_n kq14), iv 1, iv 1, .unset, .unset, .unset, .unset, .unset, .unset, .unset, .unset, .unset, .unset, .unset, .unset] []) _
            refine XS.aload X123.here hx rfl (hb hby at_107) rfl rfl ?_
            refine st125 _ ?_
            refine XS.iload X125.here hx rfl (hb hby at_112) rfl ?_
            refine XS.icmpNo X125.here hx rfl (hb hby at_114) rfl (XT.ii_ne_f rfl) ?_
            refine XT.iconstV X125.here hx rfl (1 : Int32) (hb hby at_117) (by decide) ?_
            refine XS.goto X125.here hx rfl (pc0 := 118) (pc' := 122) rfl (hb hby at_118) (by decide) (by decide) ?_
            refine XS.istore X125.here hx rfl (hb hby at_122) rfl (l' := #[iv p0, iv p1, iv p2, iv p3, iv p4, iv (own_n nn), rv b1, rv b3, iv (((own_n nn) - (1 : Int32))), iv 1, iv (own_n kq13), iv (own_n kq14), iv 1, iv 1, .unset, .unset, .unset, .unset, .unset, .unset, .unset, .unset, .unset, .unset, .unset, .unset]) rfl ?_
            refine XS.iloadN X125.here hx rfl (hb hby at_124) rfl ?_
            show oS p e below T125 (mkF m 125 #[iv p0, iv p1, iv p2, iv p3, iv p4, iv (own_n nn), rv b1, rv b3, iv (((own_n nn) - (1 : Int32))), iv 1, iv (own_n kq13), iv (own_n kq14), iv 1, iv 1, .unset, .unset, .unset, .unset, .unset, .unset, .unset, .unset, .unset, .unset, .unset, .unset] [(.int p2)]) _
            refine XS.iload X125.here hx rfl (hb hby at_125) rfl ?_
            refine st127 _ ?_
            refine XS.istore X127.here hx rfl (hb hby at_130) rfl (l' := #[iv p0, iv p1, iv p2, iv p3, iv p4, iv (own_n nn), rv b1, rv b3, iv (((own_n nn) - (1 : Int32))), iv 1, iv (own_n kq13), iv (own_n kq14), iv 1, iv 1, iv (own_n kq127), .unset, .unset, .unset, .unset, .unset, .unset, .unset, .unset, .unset, .unset, .unset]) rfl ?_
            refine XS.iloadN X127.here hx rfl (hb hby at_132) rfl ?_
            refine XS.iload X127.here hx rfl (hb hby at_133) rfl ?_
            refine st128 _ ?_
            refine XS.istore X128.here hx rfl (hb hby at_138) rfl (l' := #[iv p0, iv p1, iv p2, iv p3, iv p4, iv (own_n nn), rv b1, rv b3, iv (((own_n nn) - (1 : Int32))), iv 1, iv (own_n kq13), iv (own_n kq14), iv 1, iv 1, iv (own_n kq127), iv (own_n kq128), .unset, .unset, .unset, .unset, .unset, .unset, .unset, .unset, .unset, .unset]) rfl ?_
            refine XS.aload X128.here hx rfl (hb hby at_140) rfl rfl ?_
            show oS p e below T128 (mkF m 142 #[iv p0, iv p1, iv p2, iv p3, iv p4, iv (own_n nn), rv b1, rv b3, iv (((own_n nn) - (1 : Int32))), iv 1, iv (own_n kq13), iv (own_n kq14), iv 1, iv 1, iv (own_n kq127), iv (own_n kq128), .unset, .unset, .unset, .unset, .unset, .unset, .unset, .unset, .unset, .unset] [(.ref b1)]) _
            refine XS.iload X128.here hx rfl (hb hby at_142) rfl ?_
            refine XS.iload X128.here hx rfl (hb hby at_144) rfl ?_
            refine st131 _ ?_
            refine XS.istore X131.here hx rfl (hb hby at_149) rfl (l' := #[iv p0, iv p1, iv p2, iv p3, iv p4, iv (own_n nn), rv b1, rv b3, iv (((own_n nn) - (1 : Int32))), iv 1, iv (own_n kq13), iv (own_n kq14), iv 1, iv 1, iv (own_n kq127), iv (own_n kq128), iv 1, .unset, .unset, .unset, .unset, .unset, .unset, .unset, .unset, .unset]) rfl ?_
            refine XS.aload X131.here hx rfl (hb hby at_151) rfl rfl ?_
            refine XS.iload X131.here hx rfl (hb hby at_153) rfl ?_
            refine XS.iload X131.here hx rfl (hb hby at_155) rfl ?_
            refine st179 _ ?_
            show oS p e below T179 (mkF m 160 #[iv p0, iv p1, iv p2, iv p3, iv p4, iv (own_n nn), rv b1, rv b3, iv (((own_n nn) - (1 : Int32))), iv 1, iv (own_n kq13), iv (own_n kq14), iv 1, iv 1, iv (own_n kq127), iv (own_n kq128), iv 1, .unset, .unset, .unset, .unset, .unset, .unset, .unset, .unset, .unset] [(.int 1)]) _
            refine XS.istore X179.here hx rfl (hb hby at_160) rfl (l' := #[iv p0, iv p1, iv p2, iv p3, iv p4, iv (own_n nn), rv b1, rv b3, iv (((own_n nn) - (1 : Int32))), iv 1, iv (own_n kq13), iv (own_n kq14), iv 1, iv 1, iv (own_n kq127), iv (own_n kq128), iv 1, iv 1, .unset, .unset, .unset, .unset, .unset, .unset, .unset, .unset]) rfl ?_
            refine XS.iload X179.here hx rfl (hb hby at_162) rfl ?_
            refine XS.ifNo X179.here hx rfl (hb hby at_164) rfl (XT.i0_eq_f (by decide)) ?_
            refine XS.iload X179.here hx rfl (hb hby at_167) rfl ?_
            refine XT.iconstV X179.here hx rfl (1 : Int32) (hb hby at_169) (by decide) ?_
            refine XS.isub X179.here hx rfl (hb hby at_170) rfl ?_
            refine XS.istore X179.here hx rfl (hb hby at_171) rfl (l' := #[iv p0, iv p1, iv p2, iv p3, iv p4, iv (own_n nn), rv b1, rv b3, iv ((((own_n nn) - (1 : Int32)) - (1 : Int32))), iv 1, iv (own_n kq13), iv (own_n kq14), iv 1, iv 1, iv (own_n kq127), iv (own_n kq128), iv 1, iv 1, .unset, .unset, .unset, .unset, .unset, .unset, .unset, .unset]) rfl ?_
            refine XS.iload X179.here hx rfl (hb hby at_173) rfl ?_
            show oS p e below T179 (mkF m 175 #[iv p0, iv p1, iv p2, iv p3, iv p4, iv (own_n nn), rv b1, rv b3, iv ((((own_n nn) - (1 : Int32)) - (1 : Int32))), iv 1, iv (own_n kq13), iv (own_n kq14), iv 1, iv 1, iv (own_n kq127), iv (own_n kq128), iv 1, iv 1, .unset, .unset, .unset, .unset, .unset, .unset, .unset, .unset] [(.int 1)]) _
            refine XS.ifNo X179.here hx rfl (hb hby at_175) rfl (XT.i0_eq_f (by decide)) ?_
            refine XS.iload X179.here hx rfl (hb hby at_178) rfl ?_
            refine XS.iload X179.here hx rfl (hb hby at_180) rfl ?_
            refine XS.icmpNo X179.here hx rfl (hb hby at_182) rfl (XT.ii_ne_f (by decide)) ?_
            refine XS.aload X179.here hx rfl (hb hby at_185) rfl rfl ?_
            refine st181 _ ?_
            refine XS.iload X181.here hx rfl (hb hby at_190) rfl ?_
            refine XS.icmpNo X181.here hx rfl (hb hby at_192) rfl (XT.ii_ne_f rfl) ?_
            show oS p e below T181 (mkF m 195 #[iv p0, iv p1, iv p2, iv p3, iv p4, iv (own_n nn), rv b1, rv b3, iv ((((own_n nn) - (1 : Int32)) - (1 : Int32))), iv 1, iv (own_n kq13), iv (own_n kq14), iv 1, iv 1, iv (own_n kq127), iv (own_n kq128), iv 1, iv 1, .unset, .unset, .unset, .unset, .unset, .unset, .unset, .unset] []) _
            refine XT.iconstV X181.here hx rfl (1 : Int32) (hb hby at_195) (by decide) ?_
            refine XS.goto X181.here hx rfl (pc0 := 196) (pc' := 200) rfl (hb hby at_196) (by decide) (by decide) ?_
            refine XS.istore X181.here hx rfl (hb hby at_200) rfl (l' := #[iv p0, iv p1, iv p2, iv p3, iv p4, iv (own_n nn), rv b1, rv b3, iv ((((own_n nn) - (1 : Int32)) - (1 : Int32))), iv 1, iv (own_n kq13), iv (own_n kq14), iv 1, iv 1, iv (own_n kq127), iv (own_n kq128), iv 1, iv 1, .unset, .unset, .unset, .unset, .unset, .unset, .unset, .unset]) rfl ?_
            refine XS.iloadN X181.here hx rfl (hb hby at_202) rfl ?_
            refine XS.iload X181.here hx rfl (hb hby at_203) rfl ?_
            refine st183 _ ?_
            refine XS.istore X183.here hx rfl (hb hby at_208) rfl (l' := #[iv p0, iv p1, iv p2, iv p3, iv p4, iv (own_n nn), rv b1, rv b3, iv ((((own_n nn) - (1 : Int32)) - (1 : Int32))), iv 1, iv (own_n kq13), iv (own_n kq14), iv 1, iv 1, iv (own_n kq127), iv (own_n kq128), iv 1, iv 1, iv (own_n kq183), .unset, .unset, .unset, .unset, .unset, .unset, .unset]) rfl ?_
            refine XS.iloadN X183.here hx rfl (hb hby at_210) rfl ?_
            show oS p e below T183 (mkF m 211 #[iv p0, iv p1, iv p2, iv p3, iv p4, iv (own_n nn), rv b1, rv b3, iv ((((own_n nn) - (1 : Int32)) - (1 : Int32))), iv 1, iv (own_n kq13), iv (own_n kq14), iv 1, iv 1, iv (own_n kq127), iv (own_n kq128), iv 1, iv 1, iv (own_n kq183), .unset, .unset, .unset, .unset, .unset, .unset, .unset] [(.int p3)]) _
            refine XS.iload X183.here hx rfl (hb hby at_211) rfl ?_
            refine st184 _ ?_
            refine XS.istore X184.here hx rfl (hb hby at_216) rfl (l' := #[iv p0, iv p1, iv p2, iv p3, iv p4, iv (own_n nn), rv b1, rv b3, iv ((((own_n nn) - (1 : Int32)) - (1 : Int32))), iv 1, iv (own_n kq13), iv (own_n kq14), iv 1, iv 1, iv (own_n kq127), iv (own_n kq128), iv 1, iv 1, iv (own_n kq183), iv (own_n kq184), .unset, .unset, .unset, .unset, .unset, .unset]) rfl ?_
            refine XS.aload X184.here hx rfl (hb hby at_218) rfl rfl ?_
            refine XS.iload X184.here hx rfl (hb hby at_220) rfl ?_
            refine XS.iload X184.here hx rfl (hb hby at_222) rfl ?_
            refine st187 _ ?_
            refine XS.istore X187.here hx rfl (hb hby at_227) rfl (l' := #[iv p0, iv p1, iv p2, iv p3, iv p4, iv (own_n nn), rv b1, rv b3, iv ((((own_n nn) - (1 : Int32)) - (1 : Int32))), iv 1, iv (own_n kq13), iv (own_n kq14), iv 1, iv 1, iv (own_n kq127), iv (own_n kq128), iv 1, iv 1, iv (own_n kq183), iv (own_n kq184), iv 0, .unset, .unset, .unset, .unset, .unset]) rfl ?_
            show oS p e below T187 (mkF m 229 #[iv p0, iv p1, iv p2, iv p3, iv p4, iv (own_n nn), rv b1, rv b3, iv ((((own_n nn) - (1 : Int32)) - (1 : Int32))), iv 1, iv (own_n kq13), iv (own_n kq14), iv 1, iv 1, iv (own_n kq127), iv (own_n kq128), iv 1, iv 1, iv (own_n kq183), iv (own_n kq184), iv 0, .unset, .unset, .unset, .unset, .unset] []) _
            refine XS.aload X187.here hx rfl (hb hby at_229) rfl rfl ?_
            refine XS.iload X187.here hx rfl (hb hby at_231) rfl ?_
            refine XS.iload X187.here hx rfl (hb hby at_233) rfl ?_
            refine st189 _ ?_
            refine XS.istore X189.here hx rfl (hb hby at_238) rfl (l' := #[iv p0, iv p1, iv p2, iv p3, iv p4, iv (own_n nn), rv b1, rv b3, iv ((((own_n nn) - (1 : Int32)) - (1 : Int32))), iv 1, iv (own_n kq13), iv (own_n kq14), iv 1, iv 1, iv (own_n kq127), iv (own_n kq128), iv 1, iv 1, iv (own_n kq183), iv (own_n kq184), iv 0, iv 0, .unset, .unset, .unset, .unset]) rfl ?_
            refine XS.iload X189.here hx rfl (hb hby at_240) rfl ?_
            refine XS.ifYes X189.here hx rfl (pc0 := 242) (pc' := 251) rfl (hb hby at_242) rfl (XT.i0_eq_t (by decide)) (by decide) (by decide) ?_
            refine XS.iload X189.here hx rfl (hb hby at_251) rfl ?_
            show oS p e below T189 (mkF m 253 #[iv p0, iv p1, iv p2, iv p3, iv p4, iv (own_n nn), rv b1, rv b3, iv ((((own_n nn) - (1 : Int32)) - (1 : Int32))), iv 1, iv (own_n kq13), iv (own_n kq14), iv 1, iv 1, iv (own_n kq127), iv (own_n kq128), iv 1, iv 1, iv (own_n kq183), iv (own_n kq184), iv 0, iv 0, .unset, .unset, .unset, .unset] [(.int 1)]) _
            refine XS.ifNo X189.here hx rfl (hb hby at_253) rfl (XT.i0_eq_f (by decide)) ?_
            refine XS.iload X189.here hx rfl (hb hby at_256) rfl ?_
            refine XS.iload X189.here hx rfl (hb hby at_258) rfl ?_
            refine XS.icmpNo X189.here hx rfl (hb hby at_260) rfl (XT.ii_ne_f (by decide)) ?_
            refine XS.aload X189.here hx rfl (hb hby at_263) rfl rfl ?_
            refine st190 _ ?_
            refine XS.iload X190.here hx rfl (hb hby at_268) rfl ?_
            refine XS.icmpNo X190.here hx rfl (hb hby at_270) rfl (XT.ii_ne_f rfl) ?_
            show oS p e below T190 (mkF m 273 #[iv p0, iv p1, iv p2, iv p3, iv p4, iv (own_n nn), rv b1, rv b3, iv ((((own_n nn) - (1 : Int32)) - (1 : Int32))), iv 1, iv (own_n kq13), iv (own_n kq14), iv 1, iv 1, iv (own_n kq127), iv (own_n kq128), iv 1, iv 1, iv (own_n kq183), iv (own_n kq184), iv 0, iv 0, .unset, .unset, .unset, .unset] []) _
            refine XT.iconstV X190.here hx rfl (1 : Int32) (hb hby at_273) (by decide) ?_
            refine XS.goto X190.here hx rfl (pc0 := 274) (pc' := 278) rfl (hb hby at_274) (by decide) (by decide) ?_
            refine XS.istore X190.here hx rfl (hb hby at_278) rfl (l' := #[iv p0, iv p1, iv p2, iv p3, iv p4, iv (own_n nn), rv b1, rv b3, iv ((((own_n nn) - (1 : Int32)) - (1 : Int32))), iv 1, iv (own_n kq13), iv (own_n kq14), iv 1, iv 1, iv (own_n kq127), iv (own_n kq128), iv 1, iv 1, iv (own_n kq183), iv (own_n kq184), iv 0, iv 0, .unset, .unset, .unset, .unset]) rfl ?_
            refine XS.iload X190.here hx rfl (hb hby at_280) rfl ?_
            refine XS.iload X190.here hx rfl (hb hby at_282) rfl ?_
            refine st192 _ ?_
            refine XS.istore X192.here hx rfl (hb hby at_287) rfl (l' := #[iv p0, iv p1, iv p2, iv p3, iv p4, iv (own_n nn), rv b1, rv b3, iv ((((own_n nn) - (1 : Int32)) - (1 : Int32))), iv 1, iv (own_n kq13), iv (own_n kq14), iv 1, iv 1, iv (own_n kq127), iv (own_n kq128), iv 1, iv 1, iv (own_n kq183), iv (own_n kq184), iv 0, iv 0, iv (own_n kq192), .unset, .unset, .unset]) rfl ?_
            refine XS.iload X192.here hx rfl (hb hby at_289) rfl ?_
            show oS p e below T192 (mkF m 291 #[iv p0, iv p1, iv p2, iv p3, iv p4, iv (own_n nn), rv b1, rv b3, iv ((((own_n nn) - (1 : Int32)) - (1 : Int32))), iv 1, iv (own_n kq13), iv (own_n kq14), iv 1, iv 1, iv (own_n kq127), iv (own_n kq128), iv 1, iv 1, iv (own_n kq183), iv (own_n kq184), iv 0, iv 0, iv (own_n kq192), .unset, .unset, .unset] [(.int p4)]) _
            refine XS.iload X192.here hx rfl (hb hby at_291) rfl ?_
            refine st193 _ ?_
            refine XS.istore X193.here hx rfl (hb hby at_296) rfl (l' := #[iv p0, iv p1, iv p2, iv p3, iv p4, iv (own_n nn), rv b1, rv b3, iv ((((own_n nn) - (1 : Int32)) - (1 : Int32))), iv 1, iv (own_n kq13), iv (own_n kq14), iv 1, iv 1, iv (own_n kq127), iv (own_n kq128), iv 1, iv 1, iv (own_n kq183), iv (own_n kq184), iv 0, iv 0, iv (own_n kq192), iv (own_n kq193), .unset, .unset]) rfl ?_
            refine XS.aload X193.here hx rfl (hb hby at_298) rfl rfl ?_
            refine XS.iload X193.here hx rfl (hb hby at_300) rfl ?_
            refine XS.iload X193.here hx rfl (hb hby at_302) rfl ?_
            refine st194 _ ?_
            refine XS.istore X194.here hx rfl (hb hby at_307) rfl (l' := #[iv p0, iv p1, iv p2, iv p3, iv p4, iv (own_n nn), rv b1, rv b3, iv ((((own_n nn) - (1 : Int32)) - (1 : Int32))), iv 1, iv (own_n kq13), iv (own_n kq14), iv 1, iv 1, iv (own_n kq127), iv (own_n kq128), iv 1, iv 1, iv (own_n kq183), iv (own_n kq184), iv 0, iv 0, iv (own_n kq192), iv (own_n kq193), iv 1, .unset]) rfl ?_
            show oS p e below T194 (mkF m 309 #[iv p0, iv p1, iv p2, iv p3, iv p4, iv (own_n nn), rv b1, rv b3, iv ((((own_n nn) - (1 : Int32)) - (1 : Int32))), iv 1, iv (own_n kq13), iv (own_n kq14), iv 1, iv 1, iv (own_n kq127), iv (own_n kq128), iv 1, iv 1, iv (own_n kq183), iv (own_n kq184), iv 0, iv 0, iv (own_n kq192), iv (own_n kq193), iv 1, .unset] []) _
            refine XS.aload X194.here hx rfl (hb hby at_309) rfl rfl ?_
            refine XS.iload X194.here hx rfl (hb hby at_311) rfl ?_
            refine XS.iload X194.here hx rfl (hb hby at_313) rfl ?_
            refine st201 _ ?_
            refine XS.istore X201.here hx rfl (hb hby at_318) rfl (l' := #[iv p0, iv p1, iv p2, iv p3, iv p4, iv (own_n nn), rv b1, rv b3, iv ((((own_n nn) - (1 : Int32)) - (1 : Int32))), iv 1, iv (own_n kq13), iv (own_n kq14), iv 1, iv 1, iv (own_n kq127), iv (own_n kq128), iv 1, iv 1, iv (own_n kq183), iv (own_n kq184), iv 0, iv 0, iv (own_n kq192), iv (own_n kq193), iv 1, iv 1]) rfl ?_
            refine XS.iload X201.here hx rfl (hb hby at_320) rfl ?_
            refine XS.ifNo X201.here hx rfl (hb hby at_322) rfl (XT.i0_eq_f (by decide)) ?_
            refine XS.iload X201.here hx rfl (hb hby at_325) rfl ?_
            show oS p e below T201 (mkF m 327 #[iv p0, iv p1, iv p2, iv p3, iv p4, iv (own_n nn), rv b1, rv b3, iv ((((own_n nn) - (1 : Int32)) - (1 : Int32))), iv 1, iv (own_n kq13), iv (own_n kq14), iv 1, iv 1, iv (own_n kq127), iv (own_n kq128), iv 1, iv 1, iv (own_n kq183), iv (own_n kq184), iv 0, iv 0, iv (own_n kq192), iv (own_n kq193), iv 1, iv 1] [(.int (((own_n nn) - (1 : Int32)) - (1 : Int32)))]) _
            refine XT.iconstV X201.here hx rfl (1 : Int32) (hb hby at_327) (by decide) ?_
            refine XS.isub X201.here hx rfl (hb hby at_328) rfl ?_
            refine XS.istore X201.here hx rfl (hb hby at_329) rfl (l' := #[iv p0, iv p1, iv p2, iv p3, iv p4, iv (own_n nn), rv b1, rv b3, iv (((((own_n nn) - (1 : Int32)) - (1 : Int32)) - (1 : Int32))), iv 1, iv (own_n kq13), iv (own_n kq14), iv 1, iv 1, iv (own_n kq127), iv (own_n kq128), iv 1, iv 1, iv (own_n kq183), iv (own_n kq184), iv 0, iv 0, iv (own_n kq192), iv (own_n kq193), iv 1, iv 1]) rfl ?_
            refine XS.iload X201.here hx rfl (hb hby at_331) rfl ?_
            refine XS.ifNo X201.here hx rfl (hb hby at_333) rfl (XT.i0_eq_f (by decide)) ?_
            refine XS.iload X201.here hx rfl (hb hby at_336) rfl ?_
            refine XS.iload X201.here hx rfl (hb hby at_338) rfl ?_
            refine XS.icmpNo X201.here hx rfl (hb hby at_340) rfl (XT.ii_ne_f (by decide)) ?_
            show oS p e below T201 (mkF m 343 #[iv p0, iv p1, iv p2, iv p3, iv p4, iv (own_n nn), rv b1, rv b3, iv (((((own_n nn) - (1 : Int32)) - (1 : Int32)) - (1 : Int32))), iv 1, iv (own_n kq13), iv (own_n kq14), iv 1, iv 1, iv (own_n kq127), iv (own_n kq128), iv 1, iv 1, iv (own_n kq183), iv (own_n kq184), iv 0, iv 0, iv (own_n kq192), iv (own_n kq193), iv 1, iv 1] []) _
            refine XS.aload X201.here hx rfl (hb hby at_343) rfl rfl ?_
            refine st203 _ ?_
            refine XS.iload X203.here hx rfl (hb hby at_348) rfl ?_
            refine XS.icmpNo X203.here hx rfl (hb hby at_350) rfl (XT.ii_ne_f rfl) ?_
            refine XT.iconstV X203.here hx rfl (1 : Int32) (hb hby at_353) (by decide) ?_
            refine XS.goto X203.here hx rfl (pc0 := 354) (pc' := 358) rfl (hb hby at_354) (by decide) (by decide) ?_
            refine XS.istore X203.here hx rfl (hb hby at_358) rfl (l' := #[iv p0, iv p1, iv p2, iv p3, iv p4, iv (own_n nn), rv b1, rv b3, iv (((((own_n nn) - (1 : Int32)) - (1 : Int32)) - (1 : Int32))), iv 1, iv (own_n kq13), iv (own_n kq14), iv 1, iv 1, iv (own_n kq127), iv (own_n kq128), iv 1, iv 1, iv (own_n kq183), iv (own_n kq184), iv 0, iv 0, iv (own_n kq192), iv (own_n kq193), iv 1, iv 1]) rfl ?_
            refine XS.iload X203.here hx rfl (hb hby at_360) rfl ?_
            show oS p e below T203 (mkF m 362 #[iv p0, iv p1, iv p2, iv p3, iv p4, iv (own_n nn), rv b1, rv b3, iv (((((own_n nn) - (1 : Int32)) - (1 : Int32)) - (1 : Int32))), iv 1, iv (own_n kq13), iv (own_n kq14), iv 1, iv 1, iv (own_n kq127), iv (own_n kq128), iv 1, iv 1, iv (own_n kq183), iv (own_n kq184), iv 0, iv 0, iv (own_n kq192), iv (own_n kq193), iv 1, iv 1] [(.int 1)]) _
            exact kz)
          obtain ⟨fs, hr, hrun, hended, hW, hsame⟩ := X203.leave (v := some (.int 1)) (fun h => by rw [Bd.returns] at h; cases h)
          refine ⟨_, _, pre0 _ (S205 _ ?_), hrun, hended, _, _, rfl, ?_, ⟨_, rfl⟩, hW, hsame.mono (by decide) (by decide)⟩
          · exact retN X203 hx (t := .boolean) Bd.returns (by simp) (hb hby at_362) hr
          · show Qrm0s Z p0 p1 p2 p3 p4 nn h0 n0 _ T203.heap _
            rw [e203]
            exact ⟨rfl, N203⟩
      · have N187 := Fr.app N184 N187q
        have e187 : T187.heap = T187.heap := rfl
        have Zk187 : n0 ≤ T187.heap.size := Nat.le_trans Zk179 K187.1
        have Kk187 : Keep h0 T187.heap [] := Kk179.trans K187 (allS (Or.inr sz_b1) (allS (Or.inr sz_b2') all0))
        have f206 := (B179.keep K187 (ninS (Ne.symm ne_b1_b3) (ninS (Ne.symm ne_b2'_b3) nin0)))
        obtain ⟨_, T207, Lc207, X207, hQ207, st207⟩ := own_callS (W := 0) (y := mN5) X187 hx hZ hown (hw _ (own_w 30 rfl)) (hw _ (own_w 31 rfl)) (hw _ (own_w 16 rfl)) (hw _ (own_w 32 rfl)) (by decide) (rmRef1 l Z av0 hw [] b3 k3 (own_L (own_L own_n (own_n kq13) (own_n kq14)) ((own_L own_n (own_n kq13) (own_n kq14)) kq127) ((own_L own_n (own_n kq13) (own_n kq14)) kq128)) kq183 kq184 T187.heap n0 Zk187 f206 (Nat.lt_of_lt_of_le lq183 hnn) (Nat.lt_of_lt_of_le lq184 hnn) ge_b3 (fun q => rs187 ((RL179 _ lq183 _ lq184).mpr q))) (by decide) (by decide) (g := (mkF m 235 #[iv p0, iv p1, iv p2, iv p3, iv p4, iv (own_n nn), rv b1, rv b3, iv ((((own_n nn) - (1 : Int32)) - (1 : Int32))), iv 1, iv (own_n kq13), iv (own_n kq14), iv 1, iv 1, iv (own_n kq127), iv (own_n kq128), iv 1, iv 1, iv (own_n kq183), iv (own_n kq184), iv 1, .unset, .unset, .unset, .unset, .unset] [(.int (own_n kq184)), (.int (own_n kq183)), (.ref b3)])) rfl (by rw [hml]; rfl) (argsL := [(.ref b3), (.int (own_n kq183)), (.int (own_n kq184))]) (rest := []) (lenOf pd__III_Z rfl) rfl (hb hby at_235) rfl e187 (by decide : 3 + 0 ≤ _) (by decide : 10 + 0 ≤ _)
        obtain ⟨rfl, N207q, K207, B207⟩ := hQ207
        have N207 := Fr.app N187 N207q
        have e207 : T207.heap = T207.heap := rfl
        have Zk207 : n0 ≤ T207.heap.size := Nat.le_trans Zk187 K207.1
        have Kk207 : Keep h0 T207.heap [] := Kk187.trans K207 (allS (Or.inr sz_b3) all0)
        have RL207 := own_RL RL179 lq183 lq184
        have f208 := (C187.keep K207 (ninS ne_b1_b3 nin0))
        have f210 := ((f182.keep K187).keep K207)
        obtain ⟨_, T209, Lc209, X209, hQ209, st209⟩ := own_virtual (W := 0) (y := mN0) (z := mN0) X207 hx hZ hown (hw _ (own_w 33 rfl)) (hw _ (own_w 34 rfl)) (notFace_of_selects (args := #[]) (mvT hZ (hw _ (own_w 36 rfl)))) (hw _ (own_w 36 rfl)) (hw _ (own_w 35 rfl)) (hw _ (own_w 37 rfl)) (hw _ (own_w 2 rfl)) (by decide) (rmCount l Z av0 hw [] b1 ((((own_n nn) - (1 : Int32)) - (1 : Int32)) - (1 : Int32)) T207.heap n0 Zk207 f208) (by decide) (by decide) f210 (g := (mkF m 265 #[iv p0, iv p1, iv p2, iv p3, iv p4, iv (own_n nn), rv b1, rv b3, iv (((((own_n nn) - (1 : Int32)) - (1 : Int32)) - (1 : Int32))), iv 1, iv (own_n kq13), iv (own_n kq14), iv 1, iv 1, iv (own_n kq127), iv (own_n kq128), iv 1, iv 1, iv (own_n kq183), iv (own_n kq184), iv 1, iv 1, .unset, .unset, .unset, .unset] [(.ref b1)])) rfl (by rw [hml]; rfl) (argsL := []) (rest := []) (lenOf pd__I rfl) rfl (hb hby at_265) rfl e207 (by decide : 3 + 0 ≤ _) (by decide : 10 + 0 ≤ _)
        obtain ⟨rfl, N209q, hh209⟩ := hQ209
        have N209 := Fr.app N207 N209q
        have e209 : T209.heap = T207.heap := hh209
        obtain ⟨_, T211, Lc211, X211, hQ211, st211⟩ := own_callS (W := 0) (y := mN1) X209 hx hZ hown (hw _ (own_w 14 rfl)) (hw _ (own_w 15 rfl)) (hw _ (own_w 16 rfl)) (hw _ (own_w 17 rfl)) (by decide) (rmFirst l Z av0 hw [] p4 nn T207.heap n0 Zk207 hone hnn) (by decide) (by decide) (g := (mkF m 284 #[iv p0, iv p1, iv p2, iv p3, iv p4, iv (own_n nn), rv b1, rv b3, iv (((((own_n nn) - (1 : Int32)) - (1 : Int32)) - (1 : Int32))), iv 1, iv (own_n kq13), iv (own_n kq14), iv 1, iv 1, iv (own_n kq127), iv (own_n kq128), iv 1, iv 1, iv (own_n kq183), iv (own_n kq184), iv 1, iv 1, .unset, .unset, .unset, .unset] [(.int (own_n nn)), (.int p4)])) rfl (by rw [hml]; rfl) (argsL := [(.int p4), (.int (own_n nn))]) (rest := []) (lenOf pd__II_I rfl) rfl (hb hby at_284) rfl e209 (by decide : 3 + 0 ≤ _) (by decide : 10 + 0 ≤ _)
        obtain ⟨kq211, lq211, rfl, N211q, hh211⟩ := hQ211
        have N211 := Fr.app N209 N211q
        have e211 : T211.heap = T207.heap := hh211
        obtain ⟨_, T212, Lc212, X212, hQ212, st212⟩ := own_callS (W := 0) (y := mN2) X211 hx hZ hown (hw _ (own_w 18 rfl)) (hw _ (own_w 19 rfl)) (hw _ (own_w 16 rfl)) (hw _ (own_w 20 rfl)) (by decide) (rmSecond l Z av0 hw [] p4 nn T207.heap n0 Zk207 hone hnn) (by decide) (by decide) (g := (mkF m 293 #[iv p0, iv p1, iv p2, iv p3, iv p4, iv (own_n nn), rv b1, rv b3, iv (((((own_n nn) - (1 : Int32)) - (1 : Int32)) - (1 : Int32))), iv 1, iv (own_n kq13), iv (own_n kq14), iv 1, iv 1, iv (own_n kq127), iv (own_n kq128), iv 1, iv 1, iv (own_n kq183), iv (own_n kq184), iv 1, iv 1, iv (own_n kq211), .unset, .unset, .unset] [(.int (own_n nn)), (.int p4)])) rfl (by rw [hml]; rfl) (argsL := [(.int p4), (.int (own_n nn))]) (rest := []) (lenOf pd__II_I rfl) rfl (hb hby at_293) rfl e211 (by decide : 3 + 0 ≤ _) (by decide : 10 + 0 ≤ _)
        obtain ⟨kq212, lq212, rfl, N212q, hh212⟩ := hQ212
        have N212 := Fr.app N211 N212q
        have e212 : T212.heap = T207.heap := hh212
        have f213 := (P187.keep K207 (ninS ne_b1_b3 nin0))
        have f214 := (A187.keep K207 (ninS ne_b2'_b3 nin0))
        obtain ⟨_, T215, Lc215, X215, hQ215, st215⟩ := own_virtual (W := 0) (y := mN4) (z := mN4) X212 hx hZ hown (hw _ (own_w 21 rfl)) (hw _ (own_w 22 rfl)) (notFace_of_selects (args := #[]) (mvT hZ (hw _ (own_w 24 rfl)))) (hw _ (own_w 24 rfl)) (hw _ (own_w 23 rfl)) (hw _ (own_w 25 rfl)) (hw _ (own_w 2 rfl)) (by decide) (rmJoin l Z av0 hw [] b1 b2' k2' nn f187' (own_R (own_R (own_R (fun i => i) ((fun i => i) kq13) ((fun i => i) kq14)) ((own_R (fun i => i) ((fun i => i) kq13) ((fun i => i) kq14)) kq127) ((own_R (fun i => i) ((fun i => i) kq13) ((fun i => i) kq14)) kq128)) ((own_R (own_R (fun i => i) ((fun i => i) kq13) ((fun i => i) kq14)) ((own_R (fun i => i) ((fun i => i) kq13) ((fun i => i) kq14)) kq127) ((own_R (fun i => i) ((fun i => i) kq13) ((fun i => i) kq14)) kq128)) kq183) ((own_R (own_R (fun i => i) ((fun i => i) kq13) ((fun i => i) kq14)) ((own_R (fun i => i) ((fun i => i) kq13) ((fun i => i) kq14)) kq127) ((own_R (fun i => i) ((fun i => i) kq13) ((fun i => i) kq14)) kq128)) kq184)) d187' kq211 kq212 ((((own_n nn) - (1 : Int32)) - (1 : Int32)) - (1 : Int32)) T207.heap n0 Zk207 hnn f210 f213 f208 f214 I187 lq211 lq212 ge_b1 ge_b2' ne_b1_b2') (by decide) (by decide) f210 (g := (mkF m 304 #[iv p0, iv p1, iv p2, iv p3, iv p4, iv (own_n nn), rv b1, rv b3, iv (((((own_n nn) - (1 : Int32)) - (1 : Int32)) - (1 : Int32))), iv 1, iv (own_n kq13), iv (own_n kq14), iv 1, iv 1, iv (own_n kq127), iv (own_n kq128), iv 1, iv 1, iv (own_n kq183), iv (own_n kq184), iv 1, iv 1, iv (own_n kq211), iv (own_n kq212), .unset, .unset] [(.int (own_n kq212)), (.int (own_n kq211)), (.ref b1)])) rfl (by rw [hml]; rfl) (argsL := [(.int (own_n kq211)), (.int (own_n kq212))]) (rest := []) (lenOf pd__II_Z rfl) rfl (hb hby at_304) rfl e212 (by decide : 3 + 0 ≤ _) (by decide : 10 + 0 ≤ _)
        rcases hQ215 with ⟨rfl, N215q, rs215, K215, P215, C215, f215', A215, I215⟩ | ⟨rfl, N215q, rs215, K215, P215, C215, f215', d215', A215, I215⟩
        · have N215 := Fr.app N212 N215q
          have e215 : T215.heap = T215.heap := rfl
          have Zk215 : n0 ≤ T215.heap.size := Nat.le_trans Zk207 K215.1
          have Kk215 : Keep h0 T215.heap [] := Kk207.trans K215 (allS (Or.inr sz_b1) (allS (Or.inr sz_b2') all0))
          have f216 := (B207.keep K215 (ninS (Ne.symm ne_b1_b3) (ninS (Ne.symm ne_b2'_b3) nin0)))
          obtain ⟨_, T217, Lc217, X217, hQ217, st217⟩ := own_callS (W := 0) (y := mN5) X215 hx hZ hown (hw _ (own_w 30 rfl)) (hw _ (own_w 31 rfl)) (hw _ (own_w 16 rfl)) (hw _ (own_w 32 rfl)) (by decide) (rmRef0 l Z av0 hw [] b3 k3 (own_L (own_L (own_L own_n (own_n kq13) (own_n kq14)) ((own_L own_n (own_n kq13) (own_n kq14)) kq127) ((own_L own_n (own_n kq13) (own_n kq14)) kq128)) ((own_L (own_L own_n (own_n kq13) (own_n kq14)) ((own_L own_n (own_n kq13) (own_n kq14)) kq127) ((own_L own_n (own_n kq13) (own_n kq14)) kq128)) kq183) ((own_L (own_L own_n (own_n kq13) (own_n kq14)) ((own_L own_n (own_n kq13) (own_n kq14)) kq127) ((own_L own_n (own_n kq13) (own_n kq14)) kq128)) kq184)) kq211 kq212 T215.heap n0 Zk215 f216 (Nat.lt_of_lt_of_le lq211 hnn) (Nat.lt_of_lt_of_le lq212 hnn) ge_b3 ((RL207 _ lq211 _ lq212).mp rs215)) (by decide) (by decide) (g := (mkF m 315 #[iv p0, iv p1, iv p2, iv p3, iv p4, iv (own_n nn), rv b1, rv b3, iv (((((own_n nn) - (1 : Int32)) - (1 : Int32)) - (1 : Int32))), iv 1, iv (own_n kq13), iv (own_n kq14), iv 1, iv 1, iv (own_n kq127), iv (own_n kq128), iv 1, iv 1, iv (own_n kq183), iv (own_n kq184), iv 1, iv 1, iv (own_n kq211), iv (own_n kq212), iv 0, .unset] [(.int (own_n kq212)), (.int (own_n kq211)), (.ref b3)])) rfl (by rw [hml]; rfl) (argsL := [(.ref b3), (.int (own_n kq211)), (.int (own_n kq212))]) (rest := []) (lenOf pd__III_Z rfl) rfl (hb hby at_315) rfl e215 (by decide : 3 + 0 ≤ _) (by decide : 10 + 0 ≤ _)
          obtain ⟨rfl, N217q, hh217⟩ := hQ217
          have N217 := Fr.app N215 N217q
          have e217 : T217.heap = T215.heap := hh217
          have f219 := (f210.keep K215)
          obtain ⟨_, T218, Lc218, X218, hQ218, st218⟩ := own_virtual (W := 0) (y := mN0) (z := mN0) X217 hx hZ hown (hw _ (own_w 33 rfl)) (hw _ (own_w 34 rfl)) (notFace_of_selects (args := #[]) (mvT hZ (hw _ (own_w 36 rfl)))) (hw _ (own_w 36 rfl)) (hw _ (own_w 35 rfl)) (hw _ (own_w 37 rfl)) (hw _ (own_w 2 rfl)) (by decide) (rmCount l Z av0 hw [] b1 ((((own_n nn) - (1 : Int32)) - (1 : Int32)) - (1 : Int32)) T215.heap n0 Zk215 C215) (by decide) (by decide) f219 (g := (mkF m 345 #[iv p0, iv p1, iv p2, iv p3, iv p4, iv (own_n nn), rv b1, rv b3, iv (((((own_n nn) - (1 : Int32)) - (1 : Int32)) - (1 : Int32))), iv 1, iv (own_n kq13), iv (own_n kq14), iv 1, iv 1, iv (own_n kq127), iv (own_n kq128), iv 1, iv 1, iv (own_n kq183), iv (own_n kq184), iv 1, iv 1, iv (own_n kq211), iv (own_n kq212), iv 0, iv 0] [(.ref b1)])) rfl (by rw [hml]; rfl) (argsL := []) (rest := []) (lenOf pd__I rfl) rfl (hb hby at_345) rfl e217 (by decide : 3 + 0 ≤ _) (by decide : 10 + 0 ≤ _)
          obtain ⟨rfl, N218q, hh218⟩ := hQ218
          have N218 := Fr.app N217 N218q
          have e218 : T218.heap = T215.heap := hh218
          have S220 : ∀ tz, oS p e below T218 (mkF m 362 #[iv p0, iv p1, iv p2, iv p3, iv p4, iv (own_n nn), rv b1, rv b3, iv (((((own_n nn) - (1 : Int32)) - (1 : Int32)) - (1 : Int32))), iv 1, iv (own_n kq13), iv (own_n kq14), iv 1, iv 1, iv (own_n kq127), iv (own_n kq128), iv 1, iv 1, iv (own_n kq183), iv (own_n kq184), iv 1, iv 1, iv (own_n kq211), iv (own_n kq212), iv 0, iv 0] [(.int 1)]) tz → oS p e below s₁ (mkF m 0 #[iv p0, iv p1, iv p2, iv p3, iv p4, .unset, .unset, .unset, .unset, .unset, .unset, .unset, .unset, .unset, .unset, .unset, .unset, .unset, .unset, .unset, .unset, .unset, .unset, .unset, .unset, .unset] []) tz := fun tz kz => id (by
            show oS p e below s₁ (mkF m 0 #[iv p0, iv p1, iv p2, iv p3, iv p4, .unset, .unset, .unset, .unset, .unset, .unset, .unset, .unset, .unset, .unset, .unset, .unset, .unset, .unset, .unset, .unset, .unset, .unset, .unset, .unset, .unset] []) _
            refine XT.iconstV X0.here hx rfl (1 : Int32) (hb hby at_0) (by decide) ?_
            refine XS.iloadN X0.here hx rfl (hb hby at_1) rfl ?_
            refine XT.iconstV X0.here hx rfl (3 : Int32) (hb hby at_2) (by decide) ?_
            refine XS.iand X0.here hx rfl (hb hby at_3) rfl ?_
            refine XS.iadd X0.here hx rfl (hb hby at_4) rfl ?_
            show oS p e below s₁ (mkF m 5 #[iv p0, iv p1, iv p2, iv p3, iv p4, .unset, .unset, .unset, .unset, .unset, .unset, .unset, .unset, .unset, .unset, .unset, .unset, .unset, .unset, .unset, .unset, .unset, .unset, .unset, .unset, .unset] [(.int ((1 : Int32) + (p0 &&& (3 : Int32))))]) _
            rw [hn]
            show oS p e below s₁ (mkF m 5 #[iv p0, iv p1, iv p2, iv p3, iv p4, .unset, .unset, .unset, .unset, .unset, .unset, .unset, .unset, .unset, .unset, .unset, .unset, .unset, .unset, .unset, .unset, .unset, .unset, .unset, .unset, .unset] [(.int (own_n nn))]) _
            refine XS.istore X0.here hx rfl (hb hby at_5) rfl (l' := #[iv p0, iv p1, iv p2, iv p3, iv p4, iv (own_n nn), .unset, .unset, .unset, .unset, .unset, .unset, .unset, .unset, .unset, .unset, .unset, .unset, .unset, .unset, .unset, .unset, .unset, .unset, .unset, .unset]) rfl ?_
            refine st1 _ ?_
            show oS p e below T1 (mkF m 10 #[iv p0, iv p1, iv p2, iv p3, iv p4, iv (own_n nn), .unset, .unset, .unset, .unset, .unset, .unset, .unset, .unset, .unset, .unset, .unset, .unset, .unset, .unset, .unset, .unset, .unset, .unset, .unset, .unset] [(.ref b1)]) _
            refine XS.dup X1.here hx rfl (hb hby at_10) rfl rfl ?_
            refine XS.iload X1.here hx rfl (hb hby at_11) rfl ?_
            refine st2 _ ?_
            refine XS.astore X2.here hx rfl (hb hby at_16) rfl rfl (l' := #[iv p0, iv p1, iv p2, iv p3, iv p4, iv (own_n nn), rv b1, .unset, .unset, .unset, .unset, .unset, .unset, .unset, .unset, .unset, .unset, .unset, .unset, .unset, .unset, .unset, .unset, .unset, .unset, .unset]) rfl ?_
            refine XT.iconstV X2.here hx rfl (4 : Int32) (hb hby at_18) (by decide) ?_
            refine st3 _ ?_
            refine XS.dup X3.here hx rfl (hb hby at_21) rfl rfl ?_
            refine XT.iconstV X3.here hx rfl (0 : Int32) (hb hby at_22) (by decide) ?_
            show oS p e below T3 (mkF m 23 #[iv p0, iv p1, iv p2, iv p3, iv p4, iv (own_n nn), rv b1, .unset, .unset, .unset, .unset, .unset, .unset, .unset, .unset, .unset, .unset, .unset, .unset, .unset, .unset, .unset, .unset, .unset, .unset, .unset] [(.int 0), (.ref b3), (.ref b3)]) _
            refine XT.iconstV X3.here hx rfl (0 : Int32) (hb hby at_23) (by decide) ?_
            refine st6 _ ?_
            refine XS.dup X6.here hx rfl (hb hby at_25) rfl rfl ?_
            refine XT.iconstV X6.here hx rfl (1 : Int32) (hb hby at_26) (by decide) ?_
            refine XT.iconstV X6.here hx rfl (1 : Int32) (hb hby at_27) (by decide) ?_
            refine st8 _ ?_
            refine XS.dup X8.here hx rfl (hb hby at_29) rfl rfl ?_
            refine XT.iconstV X8.here hx rfl (2 : Int32) (hb hby at_30) (by decide) ?_
            show oS p e below T8 (mkF m 31 #[iv p0, iv p1, iv p2, iv p3, iv p4, iv (own_n nn), rv b1, .unset, .unset, .unset, .unset, .unset, .unset, .unset, .unset, .unset, .unset, .unset, .unset, .unset, .unset, .unset, .unset, .unset, .unset, .unset] [(.int 2), (.ref b3), (.ref b3)]) _
            refine XT.iconstV X8.here hx rfl (2 : Int32) (hb hby at_31) (by decide) ?_
            refine st10 _ ?_
            refine XS.dup X10.here hx rfl (hb hby at_33) rfl rfl ?_
            refine XT.iconstV X10.here hx rfl (3 : Int32) (hb hby at_34) (by decide) ?_
            refine XT.iconstV X10.here hx rfl (3 : Int32) (hb hby at_35) (by decide) ?_
            refine st12 _ ?_
            refine XS.astore X12.here hx rfl (hb hby at_37) rfl rfl (l' := #[iv p0, iv p1, iv p2, iv p3, iv p4, iv (own_n nn), rv b1, rv b3, .unset, .unset, .unset, .unset, .unset, .unset, .unset, .unset, .unset, .unset, .unset, .unset, .unset, .unset, .unset, .unset, .unset, .unset]) rfl ?_
            refine XS.iload X12.here hx rfl (hb hby at_39) rfl ?_
            show oS p e below T12 (mkF m 41 #[iv p0, iv p1, iv p2, iv p3, iv p4, iv (own_n nn), rv b1, rv b3, .unset, .unset, .unset, .unset, .unset, .unset, .unset, .unset, .unset, .unset, .unset, .unset, .unset, .unset, .unset, .unset, .unset, .unset] [(.int (own_n nn))]) _
            refine XS.istore X12.here hx rfl (hb hby at_41) rfl (l' := #[iv p0, iv p1, iv p2, iv p3, iv p4, iv (own_n nn), rv b1, rv b3, iv (own_n nn), .unset, .unset, .unset, .unset, .unset, .unset, .unset, .unset, .unset, .unset, .unset, .unset, .unset, .unset, .unset, .unset, .unset]) rfl ?_
            refine XT.iconstV X12.here hx rfl (1 : Int32) (hb hby at_43) (by decide) ?_
            refine XS.istore X12.here hx rfl (hb hby at_44) rfl (l' := #[iv p0, iv p1, iv p2, iv p3, iv p4, iv (own_n nn), rv b1, rv b3, iv (own_n nn), iv 1, .unset, .unset, .unset, .unset, .unset, .unset, .unset, .unset, .unset, .unset, .unset, .unset, .unset, .unset, .unset, .unset]) rfl ?_
            refine XS.iloadN X12.here hx rfl (hb hby at_46) rfl ?_
            refine XS.iload X12.here hx rfl (hb hby at_47) rfl ?_
            refine st13 _ ?_
            refine XS.istore X13.here hx rfl (hb hby at_52) rfl (l' := #[iv p0, iv p1, iv p2, iv p3, iv p4, iv (own_n nn), rv b1, rv b3, iv (own_n nn), iv 1, iv (own_n kq13), .unset, .unset, .unset, .unset, .unset, .unset, .unset, .unset, .unset, .unset, .unset, .unset, .unset, .unset, .unset]) rfl ?_
            refine XS.iloadN X13.here hx rfl (hb hby at_54) rfl ?_
            show oS p e below T13 (mkF m 55 #[iv p0, iv p1, iv p2, iv p3, iv p4, iv (own_n nn), rv b1, rv b3, iv (own_n nn), iv 1, iv (own_n kq13), .unset, .unset, .unset, .unset, .unset, .unset, .unset, .unset, .unset, .unset, .unset, .unset, .unset, .unset, .unset] [(.int p1)]) _
            refine XS.iload X13.here hx rfl (hb hby at_55) rfl ?_
            refine st14 _ ?_
            refine XS.istore X14.here hx rfl (hb hby at_60) rfl (l' := #[iv p0, iv p1, iv p2, iv p3, iv p4, iv (own_n nn), rv b1, rv b3, iv (own_n nn), iv 1, iv (own_n kq13), iv (own_n kq14), .unset, .unset, .unset, .unset, .unset, .unset, .unset, .unset, .unset, .unset, .unset, .unset, .unset, .unset]) rfl ?_
            refine XS.aload X14.here hx rfl (hb hby at_62) rfl rfl ?_
            refine XS.iload X14.here hx rfl (hb hby at_64) rfl ?_
            refine XS.iload X14.here hx rfl (hb hby at_66) rfl ?_
            refine st19 _ ?_
            refine XS.istore X19.here hx rfl (hb hby at_71) rfl (l' := #[iv p0, iv p1, iv p2, iv p3, iv p4, iv (own_n nn), rv b1, rv b3, iv (own_n nn), iv 1, iv (own_n kq13), iv (own_n kq14), iv 1, .unset, .unset, .unset, .unset, .unset, .unset, .unset, .unset, .unset, .unset, .unset, .unset, .unset]) rfl ?_
            show oS p e below T19 (mkF m 73 #[iv p0, iv p1, iv p2, iv p3, iv p4, iv (own_n nn), rv b1, rv b3, iv (own_n nn), iv 1, iv (own_n kq13), iv (own_n kq14), iv 1, .unset, .unset, .unset, .unset, .unset, .unset, .unset, .unset, .unset, .unset, .unset, .unset, .unset] []) _
            refine XS.aload X19.here hx rfl (hb hby at_73) rfl rfl ?_
            refine XS.iload X19.here hx rfl (hb hby at_75) rfl ?_
            refine XS.iload X19.here hx rfl (hb hby at_77) rfl ?_
            refine st123 _ ?_
            refine XS.istore X123.here hx rfl (hb hby at_82) rfl (l' := #[iv p0, iv p1, iv p2, iv p3, iv p4, iv (own_n nn), rv b1, rv b3, iv (own_n nn), iv 1, iv (own_n kq13), iv (own_n kq14), iv 1, iv 1, .unset, .unset, .unset, .unset, .unset, .unset, .unset, .unset, .unset, .unset, .unset, .unset]) rfl ?_
            refine XS.iload X123.here hx rfl (hb hby at_84) rfl ?_
            refine XS.ifNo X123.here hx rfl (hb hby at_86) rfl (XT.i0_eq_f (by decide)) ?_
            refine XS.iload X123.here hx rfl (hb hby at_89) rfl ?_
            show oS p e below T123 (mkF m 91 #[iv p0, iv p1, iv p2, iv p3, iv p4, iv (own_n nn), rv b1, rv b3, iv (own_n nn), iv 1, iv (own_n kq13), iv (own_n kq14), iv 1, iv 1, .unset, .unset, .unset, .unset, .unset, .unset, .unset, .unset, .unset, .unset, .unset, .unset] [(.int (own_n nn))]) _
            refine XT.iconstV X123.here hx rfl (1 : Int32) (hb hby at_91) (by decide) ?_
            refine XS.isub X123.here hx rfl (hb hby at_92) rfl ?_
            refine XS.istore X123.here hx rfl (hb hby at_93) rfl (l' := #[iv p0, iv p1, iv p2, iv p3, iv p4, iv (own_n nn), rv b1, rv b3, iv (((own_n nn) - (1 : Int32))), iv 1, iv (own_n kq13), iv (own_n kq14), iv 1, iv 1, .unset, .unset, .unset, .unset, .unset, .unset, .unset, .unset, .unset, .unset, .unset, .unset]) rfl ?_
            refine XS.iload X123.here hx rfl (hb hby at_95) rfl ?_
            refine XS.ifNo X123.here hx rfl (hb hby at_97) rfl (XT.i0_eq_f (by decide)) ?_
            refine XS.iload X123.here hx rfl (hb hby at_100) rfl ?_
            refine XS.iload X123.here hx rfl (hb hby at_102) rfl ?_
            refine XS.icmpNo X123.here hx rfl (hb hby at_104) rfl (XT.ii_ne_f (by decide)) ?_
            show oS p e below T123 (mkF m 107 #[iv p0, iv p1, iv p2, iv p3, iv p4, iv (own_n nn), rv b1, rv b3, iv (((own_n nn) - (1 : Int32))), iv 1, iv (own_n kq13), iv (own_n kq14), iv 1, iv 1, .unset, .unset, .unset, .unset, .unset, .unset, .unset, .unset, .unset, .unset, .unset, .unset] []) _
            refine XS.aload X123.here hx rfl (hb hby at_107) rfl rfl ?_
            refine st125 _ ?_
            refine XS.iload X125.here hx rfl (hb hby at_112) rfl ?_
            refine XS.icmpNo X125.here hx rfl (hb hby at_114) rfl (XT.ii_ne_f rfl) ?_
            refine XT.iconstV X125.here hx rfl (1 : Int32) (hb hby at_117) (by decide) ?_
            refine XS.goto X125.here hx rfl (pc0 := 118) (pc' := 122) rfl (hb hby at_118) (by decide) (by decide) ?_
            refine XS.istore X125.here hx rfl (hb hby at_122) rfl (l' := #[iv p0, iv p1, iv p2, iv p3, iv p4, iv (own_n nn), rv b1, rv b3, iv (((own_n nn) - (1 : Int32))), iv 1, iv (own_n kq13), iv (own_n kq14), iv 1, iv 1, .unset, .unset, .unset, .unset, .unset, .unset, .unset, .unset, .unset, .unset, .unset, .unset]) rfl ?_
            refine XS.iloadN X125.here hx rfl (hb hby at_124) rfl ?_
            show oS p e below T125 (mkF m 125 #[iv p0, iv p1, iv p2, iv p3, iv p4, iv (own_n nn), rv b1, rv b3, iv (((own_n nn) - (1 : Int32))), iv 1, iv (own_n kq13), iv (own_n kq14), iv 1, iv 1, .unset, .unset, .unset, .unset, .unset, .unset, .unset, .unset, .unset, .unset, .unset, .unset] [(.int p2)]) _
            refine XS.iload X125.here hx rfl (hb hby at_125) rfl ?_
            refine st127 _ ?_
            refine XS.istore X127.here hx rfl (hb hby at_130) rfl (l' := #[iv p0, iv p1, iv p2, iv p3, iv p4, iv (own_n nn), rv b1, rv b3, iv (((own_n nn) - (1 : Int32))), iv 1, iv (own_n kq13), iv (own_n kq14), iv 1, iv 1, iv (own_n kq127), .unset, .unset, .unset, .unset, .unset, .unset, .unset, .unset, .unset, .unset, .unset]) rfl ?_
            refine XS.iloadN X127.here hx rfl (hb hby at_132) rfl ?_
            refine XS.iload X127.here hx rfl (hb hby at_133) rfl ?_
            refine st128 _ ?_
            refine XS.istore X128.here hx rfl (hb hby at_138) rfl (l' := #[iv p0, iv p1, iv p2, iv p3, iv p4, iv (own_n nn), rv b1, rv b3, iv (((own_n nn) - (1 : Int32))), iv 1, iv (own_n kq13), iv (own_n kq14), iv 1, iv 1, iv (own_n kq127), iv (own_n kq128), .unset, .unset, .unset, .unset, .unset, .unset, .unset, .unset, .unset, .unset]) rfl ?_
            refine XS.aload X128.here hx rfl (hb hby at_140) rfl rfl ?_
            show oS p e below T128 (mkF m 142 #[iv p0, iv p1, iv p2, iv p3, iv p4, iv (own_n nn), rv b1, rv b3, iv (((own_n nn) - (1 : Int32))), iv 1, iv (own_n kq13), iv (own_n kq14), iv 1, iv 1, iv (own_n kq127), iv (own_n kq128), .unset, .unset, .unset, .unset, .unset, .unset, .unset, .unset, .unset, .unset] [(.ref b1)]) _
            refine XS.iload X128.here hx rfl (hb hby at_142) rfl ?_
            refine XS.iload X128.here hx rfl (hb hby at_144) rfl ?_
            refine st131 _ ?_
            refine XS.istore X131.here hx rfl (hb hby at_149) rfl (l' := #[iv p0, iv p1, iv p2, iv p3, iv p4, iv (own_n nn), rv b1, rv b3, iv (((own_n nn) - (1 : Int32))), iv 1, iv (own_n kq13), iv (own_n kq14), iv 1, iv 1, iv (own_n kq127), iv (own_n kq128), iv 1, .unset, .unset, .unset, .unset, .unset, .unset, .unset, .unset, .unset]) rfl ?_
            refine XS.aload X131.here hx rfl (hb hby at_151) rfl rfl ?_
            refine XS.iload X131.here hx rfl (hb hby at_153) rfl ?_
            refine XS.iload X131.here hx rfl (hb hby at_155) rfl ?_
            refine st179 _ ?_
            show oS p e below T179 (mkF m 160 #[iv p0, iv p1, iv p2, iv p3, iv p4, iv (own_n nn), rv b1, rv b3, iv (((own_n nn) - (1 : Int32))), iv 1, iv (own_n kq13), iv (own_n kq14), iv 1, iv 1, iv (own_n kq127), iv (own_n kq128), iv 1, .unset, .unset, .unset, .unset, .unset, .unset, .unset, .unset, .unset] [(.int 1)]) _
            refine XS.istore X179.here hx rfl (hb hby at_160) rfl (l' := #[iv p0, iv p1, iv p2, iv p3, iv p4, iv (own_n nn), rv b1, rv b3, iv (((own_n nn) - (1 : Int32))), iv 1, iv (own_n kq13), iv (own_n kq14), iv 1, iv 1, iv (own_n kq127), iv (own_n kq128), iv 1, iv 1, .unset, .unset, .unset, .unset, .unset, .unset, .unset, .unset]) rfl ?_
            refine XS.iload X179.here hx rfl (hb hby at_162) rfl ?_
            refine XS.ifNo X179.here hx rfl (hb hby at_164) rfl (XT.i0_eq_f (by decide)) ?_
            refine XS.iload X179.here hx rfl (hb hby at_167) rfl ?_
            refine XT.iconstV X179.here hx rfl (1 : Int32) (hb hby at_169) (by decide) ?_
            refine XS.isub X179.here hx rfl (hb hby at_170) rfl ?_
            refine XS.istore X179.here hx rfl (hb hby at_171) rfl (l' := #[iv p0, iv p1, iv p2, iv p3, iv p4, iv (own_n nn), rv b1, rv b3, iv ((((own_n nn) - (1 : Int32)) - (1 : Int32))), iv 1, iv (own_n kq13), iv (own_n kq14), iv 1, iv 1, iv (own_n kq127), iv (own_n kq128), iv 1, iv 1, .unset, .unset, .unset, .unset, .unset, .unset, .unset, .unset]) rfl ?_
            refine XS.iload X179.here hx rfl (hb hby at_173) rfl ?_
            show oS p e below T179 (mkF m 175 #[iv p0, iv p1, iv p2, iv p3, iv p4, iv (own_n nn), rv b1, rv b3, iv ((((own_n nn) - (1 : Int32)) - (1 : Int32))), iv 1, iv (own_n kq13), iv (own_n kq14), iv 1, iv 1, iv (own_n kq127), iv (own_n kq128), iv 1, iv 1, .unset, .unset, .unset, .unset, .unset, .unset, .unset, .unset] [(.int 1)]) _
            refine XS.ifNo X179.here hx rfl (hb hby at_175) rfl (XT.i0_eq_f (by decide)) ?_
            refine XS.iload X179.here hx rfl (hb hby at_178) rfl ?_
            refine XS.iload X179.here hx rfl (hb hby at_180) rfl ?_
            refine XS.icmpNo X179.here hx rfl (hb hby at_182) rfl (XT.ii_ne_f (by decide)) ?_
            refine XS.aload X179.here hx rfl (hb hby at_185) rfl rfl ?_
            refine st181 _ ?_
            refine XS.iload X181.here hx rfl (hb hby at_190) rfl ?_
            refine XS.icmpNo X181.here hx rfl (hb hby at_192) rfl (XT.ii_ne_f rfl) ?_
            show oS p e below T181 (mkF m 195 #[iv p0, iv p1, iv p2, iv p3, iv p4, iv (own_n nn), rv b1, rv b3, iv ((((own_n nn) - (1 : Int32)) - (1 : Int32))), iv 1, iv (own_n kq13), iv (own_n kq14), iv 1, iv 1, iv (own_n kq127), iv (own_n kq128), iv 1, iv 1, .unset, .unset, .unset, .unset, .unset, .unset, .unset, .unset] []) _
            refine XT.iconstV X181.here hx rfl (1 : Int32) (hb hby at_195) (by decide) ?_
            refine XS.goto X181.here hx rfl (pc0 := 196) (pc' := 200) rfl (hb hby at_196) (by decide) (by decide) ?_
            refine XS.istore X181.here hx rfl (hb hby at_200) rfl (l' := #[iv p0, iv p1, iv p2, iv p3, iv p4, iv (own_n nn), rv b1, rv b3, iv ((((own_n nn) - (1 : Int32)) - (1 : Int32))), iv 1, iv (own_n kq13), iv (own_n kq14), iv 1, iv 1, iv (own_n kq127), iv (own_n kq128), iv 1, iv 1, .unset, .unset, .unset, .unset, .unset, .unset, .unset, .unset]) rfl ?_
            refine XS.iloadN X181.here hx rfl (hb hby at_202) rfl ?_
            refine XS.iload X181.here hx rfl (hb hby at_203) rfl ?_
            refine st183 _ ?_
            refine XS.istore X183.here hx rfl (hb hby at_208) rfl (l' := #[iv p0, iv p1, iv p2, iv p3, iv p4, iv (own_n nn), rv b1, rv b3, iv ((((own_n nn) - (1 : Int32)) - (1 : Int32))), iv 1, iv (own_n kq13), iv (own_n kq14), iv 1, iv 1, iv (own_n kq127), iv (own_n kq128), iv 1, iv 1, iv (own_n kq183), .unset, .unset, .unset, .unset, .unset, .unset, .unset]) rfl ?_
            refine XS.iloadN X183.here hx rfl (hb hby at_210) rfl ?_
            show oS p e below T183 (mkF m 211 #[iv p0, iv p1, iv p2, iv p3, iv p4, iv (own_n nn), rv b1, rv b3, iv ((((own_n nn) - (1 : Int32)) - (1 : Int32))), iv 1, iv (own_n kq13), iv (own_n kq14), iv 1, iv 1, iv (own_n kq127), iv (own_n kq128), iv 1, iv 1, iv (own_n kq183), .unset, .unset, .unset, .unset, .unset, .unset, .unset] [(.int p3)]) _
            refine XS.iload X183.here hx rfl (hb hby at_211) rfl ?_
            refine st184 _ ?_
            refine XS.istore X184.here hx rfl (hb hby at_216) rfl (l' := #[iv p0, iv p1, iv p2, iv p3, iv p4, iv (own_n nn), rv b1, rv b3, iv ((((own_n nn) - (1 : Int32)) - (1 : Int32))), iv 1, iv (own_n kq13), iv (own_n kq14), iv 1, iv 1, iv (own_n kq127), iv (own_n kq128), iv 1, iv 1, iv (own_n kq183), iv (own_n kq184), .unset, .unset, .unset, .unset, .unset, .unset]) rfl ?_
            refine XS.aload X184.here hx rfl (hb hby at_218) rfl rfl ?_
            refine XS.iload X184.here hx rfl (hb hby at_220) rfl ?_
            refine XS.iload X184.here hx rfl (hb hby at_222) rfl ?_
            refine st187 _ ?_
            refine XS.istore X187.here hx rfl (hb hby at_227) rfl (l' := #[iv p0, iv p1, iv p2, iv p3, iv p4, iv (own_n nn), rv b1, rv b3, iv ((((own_n nn) - (1 : Int32)) - (1 : Int32))), iv 1, iv (own_n kq13), iv (own_n kq14), iv 1, iv 1, iv (own_n kq127), iv (own_n kq128), iv 1, iv 1, iv (own_n kq183), iv (own_n kq184), iv 1, .unset, .unset, .unset, .unset, .unset]) rfl ?_
            show oS p e below T187 (mkF m 229 #[iv p0, iv p1, iv p2, iv p3, iv p4, iv (own_n nn), rv b1, rv b3, iv ((((own_n nn) - (1 : Int32)) - (1 : Int32))), iv 1, iv (own_n kq13), iv (own_n kq14), iv 1, iv 1, iv (own_n kq127), iv (own_n kq128), iv 1, iv 1, iv (own_n kq183), iv (own_n kq184), iv 1, .unset, .unset, .unset, .unset, .unset] []) _
            refine XS.aload X187.here hx rfl (hb hby at_229) rfl rfl ?_
            refine XS.iload X187.here hx rfl (hb hby at_231) rfl ?_
            refine XS.iload X187.here hx rfl (hb hby at_233) rfl ?_
            refine st207 _ ?_
            refine XS.istore X207.here hx rfl (hb hby at_238) rfl (l' := #[iv p0, iv p1, iv p2, iv p3, iv p4, iv (own_n nn), rv b1, rv b3, iv ((((own_n nn) - (1 : Int32)) - (1 : Int32))), iv 1, iv (own_n kq13), iv (own_n kq14), iv 1, iv 1, iv (own_n kq127), iv (own_n kq128), iv 1, iv 1, iv (own_n kq183), iv (own_n kq184), iv 1, iv 1, .unset, .unset, .unset, .unset]) rfl ?_
            refine XS.iload X207.here hx rfl (hb hby at_240) rfl ?_
            refine XS.ifNo X207.here hx rfl (hb hby at_242) rfl (XT.i0_eq_f (by decide)) ?_
            refine XS.iload X207.here hx rfl (hb hby at_245) rfl ?_
            show oS p e below T207 (mkF m 247 #[iv p0, iv p1, iv p2, iv p3, iv p4, iv (own_n nn), rv b1, rv b3, iv ((((own_n nn) - (1 : Int32)) - (1 : Int32))), iv 1, iv (own_n kq13), iv (own_n kq14), iv 1, iv 1, iv (own_n kq127), iv (own_n kq128), iv 1, iv 1, iv (own_n kq183), iv (own_n kq184), iv 1, iv 1, .unset, .unset, .unset, .unset] [(.int (((own_n nn) - (1 : Int32)) - (1 : Int32)))]) _
            refine XT.iconstV X207.here hx rfl (1 : Int32) (hb hby at_247) (by decide) ?_
            refine XS.isub X207.here hx rfl (hb hby at_248) rfl ?_
            refine XS.istore X207.here hx rfl (hb hby at_249) rfl (l' := #[iv p0, iv p1, iv p2, iv p3, iv p4, iv (own_n nn), rv b1, rv b3, iv (((((own_n nn) - (1 : Int32)) - (1 : Int32)) - (1 : Int32))), iv 1, iv (own_n kq13), iv (own_n kq14), iv 1, iv 1, iv (own_n kq127), iv (own_n kq128), iv 1, iv 1, iv (own_n kq183), iv (own_n kq184), iv 1, iv 1, .unset, .unset, .unset, .unset]) rfl ?_
            refine XS.iload X207.here hx rfl (hb hby at_251) rfl ?_
            refine XS.ifNo X207.here hx rfl (hb hby at_253) rfl (XT.i0_eq_f (by decide)) ?_
            refine XS.iload X207.here hx rfl (hb hby at_256) rfl ?_
            refine XS.iload X207.here hx rfl (hb hby at_258) rfl ?_
            refine XS.icmpNo X207.here hx rfl (hb hby at_260) rfl (XT.ii_ne_f (by decide)) ?_
            show oS p e below T207 (mkF m 263 #[iv p0, iv p1, iv p2, iv p3, iv p4, iv (own_n nn), rv b1, rv b3, iv (((((own_n nn) - (1 : Int32)) - (1 : Int32)) - (1 : Int32))), iv 1, iv (own_n kq13), iv (own_n kq14), iv 1, iv 1, iv (own_n kq127), iv (own_n kq128), iv 1, iv 1, iv (own_n kq183), iv (own_n kq184), iv 1, iv 1, .unset, .unset, .unset, .unset] []) _
            refine XS.aload X207.here hx rfl (hb hby at_263) rfl rfl ?_
            refine st209 _ ?_
            refine XS.iload X209.here hx rfl (hb hby at_268) rfl ?_
            refine XS.icmpNo X209.here hx rfl (hb hby at_270) rfl (XT.ii_ne_f rfl) ?_
            refine XT.iconstV X209.here hx rfl (1 : Int32) (hb hby at_273) (by decide) ?_
            refine XS.goto X209.here hx rfl (pc0 := 274) (pc' := 278) rfl (hb hby at_274) (by decide) (by decide) ?_
            refine XS.istore X209.here hx rfl (hb hby at_278) rfl (l' := #[iv p0, iv p1, iv p2, iv p3, iv p4, iv (own_n nn), rv b1, rv b3, iv (((((own_n nn) - (1 : Int32)) - (1 : Int32)) - (1 : Int32))), iv 1, iv (own_n kq13), iv (own_n kq14), iv 1, iv 1, iv (own_n kq127), iv (own_n kq128), iv 1, iv 1, iv (own_n kq183), iv (own_n kq184), iv 1, iv 1, .unset, .unset, .unset, .unset]) rfl ?_
            refine XS.iload X209.here hx rfl (hb hby at_280) rfl ?_
            show oS p e below T209 (mkF m 282 #[iv p0, iv p1, iv p2, iv p3, iv p4, iv (own_n nn), rv b1, rv b3, iv (((((own_n nn) - (1 : Int32)) - (1 : Int32)) - (1 : Int32))), iv 1, iv (own_n kq13), iv (own_n kq14), iv 1, iv 1, iv (own_n kq127), iv (own_n kq128), iv 1, iv 1, iv (own_n kq183), iv (own_n kq184), iv 1, iv 1, .unset, .unset, .unset, .unset] [(.int p4)]) _
            refine XS.iload X209.here hx rfl (hb hby at_282) rfl ?_
            refine st211 _ ?_
            refine XS.istore X211.here hx rfl (hb hby at_287) rfl (l' := #[iv p0, iv p1, iv p2, iv p3, iv p4, iv (own_n nn), rv b1, rv b3, iv (((((own_n nn) - (1 : Int32)) - (1 : Int32)) - (1 : Int32))), iv 1, iv (own_n kq13), iv (own_n kq14), iv 1, iv 1, iv (own_n kq127), iv (own_n kq128), iv 1, iv 1, iv (own_n kq183), iv (own_n kq184), iv 1, iv 1, iv (own_n kq211), .unset, .unset, .unset]) rfl ?_
            refine XS.iload X211.here hx rfl (hb hby at_289) rfl ?_
            refine XS.iload X211.here hx rfl (hb hby at_291) rfl ?_
            refine st212 _ ?_
            refine XS.istore X212.here hx rfl (hb hby at_296) rfl (l' := #[iv p0, iv p1, iv p2, iv p3, iv p4, iv (own_n nn), rv b1, rv b3, iv (((((own_n nn) - (1 : Int32)) - (1 : Int32)) - (1 : Int32))), iv 1, iv (own_n kq13), iv (own_n kq14), iv 1, iv 1, iv (own_n kq127), iv (own_n kq128), iv 1, iv 1, iv (own_n kq183), iv (own_n kq184), iv 1, iv 1, iv (own_n kq211), iv (own_n kq212), .unset, .unset]) rfl ?_
            refine XS.aload X212.here hx rfl (hb hby at_298) rfl rfl ?_
            show oS p e below T212 (mkF m 300 #[iv p0, iv p1, iv p2, iv p3, iv p4, iv (own_n nn), rv b1, rv b3, iv (((((own_n nn) - (1 : Int32)) - (1 : Int32)) - (1 : Int32))), iv 1, iv (own_n kq13), iv (own_n kq14), iv 1, iv 1, iv (own_n kq127), iv (own_n kq128), iv 1, iv 1, iv (own_n kq183), iv (own_n kq184), iv 1, iv 1, iv (own_n kq211), iv (own_n kq212), .unset, .unset] [(.ref b1)]) _
            refine XS.iload X212.here hx rfl (hb hby at_300) rfl ?_
            refine XS.iload X212.here hx rfl (hb hby at_302) rfl ?_
            refine st215 _ ?_
            refine XS.istore X215.here hx rfl (hb hby at_307) rfl (l' := #[iv p0, iv p1, iv p2, iv p3, iv p4, iv (own_n nn), rv b1, rv b3, iv (((((own_n nn) - (1 : Int32)) - (1 : Int32)) - (1 : Int32))), iv 1, iv (own_n kq13), iv (own_n kq14), iv 1, iv 1, iv (own_n kq127), iv (own_n kq128), iv 1, iv 1, iv (own_n kq183), iv (own_n kq184), iv 1, iv 1, iv (own_n kq211), iv (own_n kq212), iv 0, .unset]) rfl ?_
            refine XS.aload X215.here hx rfl (hb hby at_309) rfl rfl ?_
            refine XS.iload X215.here hx rfl (hb hby at_311) rfl ?_
            refine XS.iload X215.here hx rfl (hb hby at_313) rfl ?_
            refine st217 _ ?_
            show oS p e below T217 (mkF m 318 #[iv p0, iv p1, iv p2, iv p3, iv p4, iv (own_n nn), rv b1, rv b3, iv (((((own_n nn) - (1 : Int32)) - (1 : Int32)) - (1 : Int32))), iv 1, iv (own_n kq13), iv (own_n kq14), iv 1, iv 1, iv (own_n kq127), iv (own_n kq128), iv 1, iv 1, iv (own_n kq183), iv (own_n kq184), iv 1, iv 1, iv (own_n kq211), iv (own_n kq212), iv 0, .unset] [(.int 0)]) _
            refine XS.istore X217.here hx rfl (hb hby at_318) rfl (l' := #[iv p0, iv p1, iv p2, iv p3, iv p4, iv (own_n nn), rv b1, rv b3, iv (((((own_n nn) - (1 : Int32)) - (1 : Int32)) - (1 : Int32))), iv 1, iv (own_n kq13), iv (own_n kq14), iv 1, iv 1, iv (own_n kq127), iv (own_n kq128), iv 1, iv 1, iv (own_n kq183), iv (own_n kq184), iv 1, iv 1, iv (own_n kq211), iv (own_n kq212), iv 0, iv 0]) rfl ?_
            refine XS.iload X217.here hx rfl (hb hby at_320) rfl ?_
            refine XS.ifYes X217.here hx rfl (pc0 := 322) (pc' := 331) rfl (hb hby at_322) rfl (XT.i0_eq_t (by decide)) (by decide) (by decide) ?_
            refine XS.iload X217.here hx rfl (hb hby at_331) rfl ?_
            refine XS.ifNo X217.here hx rfl (hb hby at_333) rfl (XT.i0_eq_f (by decide)) ?_
            refine XS.iload X217.here hx rfl (hb hby at_336) rfl ?_
            refine XS.iload X217.here hx rfl (hb hby at_338) rfl ?_
            refine XS.icmpNo X217.here hx rfl (hb hby at_340) rfl (XT.ii_ne_f (by decide)) ?_
            show oS p e below T217 (mkF m 343 #[iv p0, iv p1, iv p2, iv p3, iv p4, iv (own_n nn), rv b1, rv b3, iv (((((own_n nn) - (1 : Int32)) - (1 : Int32)) - (1 : Int32))), iv 1, iv (own_n kq13), iv (own_n kq14), iv 1, iv 1, iv (own_n kq127), iv (own_n kq128), iv 1, iv 1, iv (own_n kq183), iv (own_n kq184), iv 1, iv 1, iv (own_n kq211), iv (own_n kq212), iv 0, iv 0] []) _
            refine XS.aload X217.here hx rfl (hb hby at_343) rfl rfl ?_
            refine st218 _ ?_
            refine XS.iload X218.here hx rfl (hb hby at_348) rfl ?_
            refine XS.icmpNo X218.here hx rfl (hb hby at_350) rfl (XT.ii_ne_f rfl) ?_
            refine XT.iconstV X218.here hx rfl (1 : Int32) (hb hby at_353) (by decide) ?_
            refine XS.goto X218.here hx rfl (pc0 := 354) (pc' := 358) rfl (hb hby at_354) (by decide) (by decide) ?_
            refine XS.istore X218.here hx rfl (hb hby at_358) rfl (l' := #[iv p0, iv p1, iv p2, iv p3, iv p4, iv (own_n nn), rv b1, rv b3, iv (((((own_n nn) - (1 : Int32)) - (1 : Int32)) - (1 : Int32))), iv 1, iv (own_n kq13), iv (own_n kq14), iv 1, iv 1, iv (own_n kq127), iv (own_n kq128), iv 1, iv 1, iv (own_n kq183), iv (own_n kq184), iv 1, iv 1, iv (own_n kq211), iv (own_n kq212), iv 0, iv 0]) rfl ?_
            refine XS.iload X218.here hx rfl (hb hby at_360) rfl ?_
            show oS p e below T218 (mkF m 362 #[iv p0, iv p1, iv p2, iv p3, iv p4, iv (own_n nn), rv b1, rv b3, iv (((((own_n nn) - (1 : Int32)) - (1 : Int32)) - (1 : Int32))), iv 1, iv (own_n kq13), iv (own_n kq14), iv 1, iv 1, iv (own_n kq127), iv (own_n kq128), iv 1, iv 1, iv (own_n kq183), iv (own_n kq184), iv 1, iv 1, iv (own_n kq211), iv (own_n kq212), iv 0, iv 0] [(.int 1)]) _
            exact kz)
          obtain ⟨fs, hr, hrun, hended, hW, hsame⟩ := X218.leave (v := some (.int 1)) (fun h => by rw [Bd.returns] at h; cases h)
          refine ⟨_, _, pre0 _ (S220 _ ?_), hrun, hended, _, _, rfl, ?_, ⟨_, rfl⟩, hW, hsame.mono (by decide) (by decide)⟩
          · exact retN X218 hx (t := .boolean) Bd.returns (by simp) (hb hby at_362) hr
          · show Qrm0s Z p0 p1 p2 p3 p4 nn h0 n0 _ T218.heap _
            rw [e218]
            exact ⟨rfl, N218⟩
        · have N215 := Fr.app N212 N215q
          have e215 : T215.heap = T215.heap := rfl
          have Zk215 : n0 ≤ T215.heap.size := Nat.le_trans Zk207 K215.1
          have Kk215 : Keep h0 T215.heap [] := Kk207.trans K215 (allS (Or.inr sz_b1) (allS (Or.inr sz_b2') all0))
          have f221 := (B207.keep K215 (ninS (Ne.symm ne_b1_b3) (ninS (Ne.symm ne_b2'_b3) nin0)))
          obtain ⟨_, T222, Lc222, X222, hQ222, st222⟩ := own_callS (W := 0) (y := mN5) X215 hx hZ hown (hw _ (own_w 30 rfl)) (hw _ (own_w 31 rfl)) (hw _ (own_w 16 rfl)) (hw _ (own_w 32 rfl)) (by decide) (rmRef1 l Z av0 hw [] b3 k3 (own_L (own_L (own_L own_n (own_n kq13) (own_n kq14)) ((own_L own_n (own_n kq13) (own_n kq14)) kq127) ((own_L own_n (own_n kq13) (own_n kq14)) kq128)) ((own_L (own_L own_n (own_n kq13) (own_n kq14)) ((own_L own_n (own_n kq13) (own_n kq14)) kq127) ((own_L own_n (own_n kq13) (own_n kq14)) kq128)) kq183) ((own_L (own_L own_n (own_n kq13) (own_n kq14)) ((own_L own_n (own_n kq13) (own_n kq14)) kq127) ((own_L own_n (own_n kq13) (own_n kq14)) kq128)) kq184)) kq211 kq212 T215.heap n0 Zk215 f221 (Nat.lt_of_lt_of_le lq211 hnn) (Nat.lt_of_lt_of_le lq212 hnn) ge_b3 (fun q => rs215 ((RL207 _ lq211 _ lq212).mpr q))) (by decide) (by decide) (g := (mkF m 315 #[iv p0, iv p1, iv p2, iv p3, iv p4, iv (own_n nn), rv b1, rv b3, iv (((((own_n nn) - (1 : Int32)) - (1 : Int32)) - (1 : Int32))), iv 1, iv (own_n kq13), iv (own_n kq14), iv 1, iv 1, iv (own_n kq127), iv (own_n kq128), iv 1, iv 1, iv (own_n kq183), iv (own_n kq184), iv 1, iv 1, iv (own_n kq211), iv (own_n kq212), iv 1, .unset] [(.int (own_n kq212)), (.int (own_n kq211)), (.ref b3)])) rfl (by rw [hml]; rfl) (argsL := [(.ref b3), (.int (own_n kq211)), (.int (own_n kq212))]) (rest := []) (lenOf pd__III_Z rfl) rfl (hb hby at_315) rfl e215 (by decide : 3 + 0 ≤ _) (by decide : 10 + 0 ≤ _)
          obtain ⟨rfl, N222q, K222, B222⟩ := hQ222
          have N222 := Fr.app N215 N222q
          have e222 : T222.heap = T222.heap := rfl
          have Zk222 : n0 ≤ T222.heap.size := Nat.le_trans Zk215 K222.1
          have Kk222 : Keep h0 T222.heap [] := Kk215.trans K222 (allS (Or.inr sz_b3) all0)
          have RL222 := own_RL RL207 lq211 lq212
          have f223 := (C215.keep K222 (ninS ne_b1_b3 nin0))
          have f225 := ((f210.keep K215).keep K222)
          obtain ⟨_, T224, Lc224, X224, hQ224, st224⟩ := own_virtual (W := 0) (y := mN0) (z := mN0) X222 hx hZ hown (hw _ (own_w 33 rfl)) (hw _ (own_w 34 rfl)) (notFace_of_selects (args := #[]) (mvT hZ (hw _ (own_w 36 rfl)))) (hw _ (own_w 36 rfl)) (hw _ (own_w 35 rfl)) (hw _ (own_w 37 rfl)) (hw _ (own_w 2 rfl)) (by decide) (rmCount l Z av0 hw [] b1 (((((own_n nn) - (1 : Int32)) - (1 : Int32)) - (1 : Int32)) - (1 : Int32)) T222.heap n0 Zk222 f223) (by decide) (by decide) f225 (g := (mkF m 345 #[iv p0, iv p1, iv p2, iv p3, iv p4, iv (own_n nn), rv b1, rv b3, iv ((((((own_n nn) - (1 : Int32)) - (1 : Int32)) - (1 : Int32)) - (1 : Int32))), iv 1, iv (own_n kq13), iv (own_n kq14), iv 1, iv 1, iv (own_n kq127), iv (own_n kq128), iv 1, iv 1, iv (own_n kq183), iv (own_n kq184), iv 1, iv 1, iv (own_n kq211), iv (own_n kq212), iv 1, iv 1] [(.ref b1)])) rfl (by rw [hml]; rfl) (argsL := []) (rest := []) (lenOf pd__I rfl) rfl (hb hby at_345) rfl e222 (by decide : 3 + 0 ≤ _) (by decide : 10 + 0 ≤ _)
          obtain ⟨rfl, N224q, hh224⟩ := hQ224
          have N224 := Fr.app N222 N224q
          have e224 : T224.heap = T222.heap := hh224
          have S226 : ∀ tz, oS p e below T224 (mkF m 362 #[iv p0, iv p1, iv p2, iv p3, iv p4, iv (own_n nn), rv b1, rv b3, iv ((((((own_n nn) - (1 : Int32)) - (1 : Int32)) - (1 : Int32)) - (1 : Int32))), iv 1, iv (own_n kq13), iv (own_n kq14), iv 1, iv 1, iv (own_n kq127), iv (own_n kq128), iv 1, iv 1, iv (own_n kq183), iv (own_n kq184), iv 1, iv 1, iv (own_n kq211), iv (own_n kq212), iv 1, iv 1] [(.int 1)]) tz → oS p e below s₁ (mkF m 0 #[iv p0, iv p1, iv p2, iv p3, iv p4, .unset, .unset, .unset, .unset, .unset, .unset, .unset, .unset, .unset, .unset, .unset, .unset, .unset, .unset, .unset, .unset, .unset, .unset, .unset, .unset, .unset] []) tz := fun tz kz => id (by
            show oS p e below s₁ (mkF m 0 #[iv p0, iv p1, iv p2, iv p3, iv p4, .unset, .unset, .unset, .unset, .unset, .unset, .unset, .unset, .unset, .unset, .unset, .unset, .unset, .unset, .unset, .unset, .unset, .unset, .unset, .unset, .unset] []) _
            refine XT.iconstV X0.here hx rfl (1 : Int32) (hb hby at_0) (by decide) ?_
            refine XS.iloadN X0.here hx rfl (hb hby at_1) rfl ?_
            refine XT.iconstV X0.here hx rfl (3 : Int32) (hb hby at_2) (by decide) ?_
            refine XS.iand X0.here hx rfl (hb hby at_3) rfl ?_
            refine XS.iadd X0.here hx rfl (hb hby at_4) rfl ?_
            show oS p e below s₁ (mkF m 5 #[iv p0, iv p1, iv p2, iv p3, iv p4, .unset, .unset, .unset, .unset, .unset, .unset, .unset, .unset, .unset, .unset, .unset, .unset, .unset, .unset, .unset, .unset, .unset, .unset, .unset, .unset, .unset] [(.int ((1 : Int32) + (p0 &&& (3 : Int32))))]) _
            rw [hn]
            show oS p e below s₁ (mkF m 5 #[iv p0, iv p1, iv p2, iv p3, iv p4, .unset, .unset, .unset, .unset, .unset, .unset, .unset, .unset, .unset, .unset, .unset, .unset, .unset, .unset, .unset, .unset, .unset, .unset, .unset, .unset, .unset] [(.int (own_n nn))]) _
            refine XS.istore X0.here hx rfl (hb hby at_5) rfl (l' := #[iv p0, iv p1, iv p2, iv p3, iv p4, iv (own_n nn), .unset, .unset, .unset, .unset, .unset, .unset, .unset, .unset, .unset, .unset, .unset, .unset, .unset, .unset, .unset, .unset, .unset, .unset, .unset, .unset]) rfl ?_
            refine st1 _ ?_
            show oS p e below T1 (mkF m 10 #[iv p0, iv p1, iv p2, iv p3, iv p4, iv (own_n nn), .unset, .unset, .unset, .unset, .unset, .unset, .unset, .unset, .unset, .unset, .unset, .unset, .unset, .unset, .unset, .unset, .unset, .unset, .unset, .unset] [(.ref b1)]) _
            refine XS.dup X1.here hx rfl (hb hby at_10) rfl rfl ?_
            refine XS.iload X1.here hx rfl (hb hby at_11) rfl ?_
            refine st2 _ ?_
            refine XS.astore X2.here hx rfl (hb hby at_16) rfl rfl (l' := #[iv p0, iv p1, iv p2, iv p3, iv p4, iv (own_n nn), rv b1, .unset, .unset, .unset, .unset, .unset, .unset, .unset, .unset, .unset, .unset, .unset, .unset, .unset, .unset, .unset, .unset, .unset, .unset, .unset]) rfl ?_
            refine XT.iconstV X2.here hx rfl (4 : Int32) (hb hby at_18) (by decide) ?_
            refine st3 _ ?_
            refine XS.dup X3.here hx rfl (hb hby at_21) rfl rfl ?_
            refine XT.iconstV X3.here hx rfl (0 : Int32) (hb hby at_22) (by decide) ?_
            show oS p e below T3 (mkF m 23 #[iv p0, iv p1, iv p2, iv p3, iv p4, iv (own_n nn), rv b1, .unset, .unset, .unset, .unset, .unset, .unset, .unset, .unset, .unset, .unset, .unset, .unset, .unset, .unset, .unset, .unset, .unset, .unset, .unset] [(.int 0), (.ref b3), (.ref b3)]) _
            refine XT.iconstV X3.here hx rfl (0 : Int32) (hb hby at_23) (by decide) ?_
            refine st6 _ ?_
            refine XS.dup X6.here hx rfl (hb hby at_25) rfl rfl ?_
            refine XT.iconstV X6.here hx rfl (1 : Int32) (hb hby at_26) (by decide) ?_
            refine XT.iconstV X6.here hx rfl (1 : Int32) (hb hby at_27) (by decide) ?_
            refine st8 _ ?_
            refine XS.dup X8.here hx rfl (hb hby at_29) rfl rfl ?_
            refine XT.iconstV X8.here hx rfl (2 : Int32) (hb hby at_30) (by decide) ?_
            show oS p e below T8 (mkF m 31 #[iv p0, iv p1, iv p2, iv p3, iv p4, iv (own_n nn), rv b1, .unset, .unset, .unset, .unset, .unset, .unset, .unset, .unset, .unset, .unset, .unset, .unset, .unset, .unset, .unset, .unset, .unset, .unset, .unset] [(.int 2), (.ref b3), (.ref b3)]) _
            refine XT.iconstV X8.here hx rfl (2 : Int32) (hb hby at_31) (by decide) ?_
            refine st10 _ ?_
            refine XS.dup X10.here hx rfl (hb hby at_33) rfl rfl ?_
            refine XT.iconstV X10.here hx rfl (3 : Int32) (hb hby at_34) (by decide) ?_
            refine XT.iconstV X10.here hx rfl (3 : Int32) (hb hby at_35) (by decide) ?_
            refine st12 _ ?_
            refine XS.astore X12.here hx rfl (hb hby at_37) rfl rfl (l' := #[iv p0, iv p1, iv p2, iv p3, iv p4, iv (own_n nn), rv b1, rv b3, .unset, .unset, .unset, .unset, .unset, .unset, .unset, .unset, .unset, .unset, .unset, .unset, .unset, .unset, .unset, .unset, .unset, .unset]) rfl ?_
            refine XS.iload X12.here hx rfl (hb hby at_39) rfl ?_
            show oS p e below T12 (mkF m 41 #[iv p0, iv p1, iv p2, iv p3, iv p4, iv (own_n nn), rv b1, rv b3, .unset, .unset, .unset, .unset, .unset, .unset, .unset, .unset, .unset, .unset, .unset, .unset, .unset, .unset, .unset, .unset, .unset, .unset] [(.int (own_n nn))]) _
            refine XS.istore X12.here hx rfl (hb hby at_41) rfl (l' := #[iv p0, iv p1, iv p2, iv p3, iv p4, iv (own_n nn), rv b1, rv b3, iv (own_n nn), .unset, .unset, .unset, .unset, .unset, .unset, .unset, .unset, .unset, .unset, .unset, .unset, .unset, .unset, .unset, .unset, .unset]) rfl ?_
            refine XT.iconstV X12.here hx rfl (1 : Int32) (hb hby at_43) (by decide) ?_
            refine XS.istore X12.here hx rfl (hb hby at_44) rfl (l' := #[iv p0, iv p1, iv p2, iv p3, iv p4, iv (own_n nn), rv b1, rv b3, iv (own_n nn), iv 1, .unset, .unset, .unset, .unset, .unset, .unset, .unset, .unset, .unset, .unset, .unset, .unset, .unset, .unset, .unset, .unset]) rfl ?_
            refine XS.iloadN X12.here hx rfl (hb hby at_46) rfl ?_
            refine XS.iload X12.here hx rfl (hb hby at_47) rfl ?_
            refine st13 _ ?_
            refine XS.istore X13.here hx rfl (hb hby at_52) rfl (l' := #[iv p0, iv p1, iv p2, iv p3, iv p4, iv (own_n nn), rv b1, rv b3, iv (own_n nn), iv 1, iv (own_n kq13), .unset, .unset, .unset, .unset, .unset, .unset, .unset, .unset, .unset, .unset, .unset, .unset, .unset, .unset, .unset]) rfl ?_
            refine XS.iloadN X13.here hx rfl (hb hby at_54) rfl ?_
            show oS p e below T13 (mkF m 55 #[iv p0, iv p1, iv p2, iv p3, iv p4, iv (own_n nn), rv b1, rv b3, iv (own_n nn), iv 1, iv (own_n kq13), .unset, .unset, .unset, .unset, .unset, .unset, .unset, .unset, .unset, .unset, .unset, .unset, .unset, .unset, .unset] [(.int p1)]) _
            refine XS.iload X13.here hx rfl (hb hby at_55) rfl ?_
            refine st14 _ ?_
            refine XS.istore X14.here hx rfl (hb hby at_60) rfl (l' := #[iv p0, iv p1, iv p2, iv p3, iv p4, iv (own_n nn), rv b1, rv b3, iv (own_n nn), iv 1, iv (own_n kq13), iv (own_n kq14), .unset, .unset, .unset, .unset, .unset, .unset, .unset, .unset, .unset, .unset, .unset, .unset, .unset, .unset]) rfl ?_
            refine XS.aload X14.here hx rfl (hb hby at_62) rfl rfl ?_
            refine XS.iload X14.here hx rfl (hb hby at_64) rfl ?_
            refine XS.iload X14.here hx rfl (hb hby at_66) rfl ?_
            refine st19 _ ?_
            refine XS.istore X19.here hx rfl (hb hby at_71) rfl (l' := #[iv p0, iv p1, iv p2, iv p3, iv p4, iv (own_n nn), rv b1, rv b3, iv (own_n nn), iv 1, iv (own_n kq13), iv (own_n kq14), iv 1, .unset, .unset, .unset, .unset, .unset, .unset, .unset, .unset, .unset, .unset, .unset, .unset, .unset]) rfl ?_
            show oS p e below T19 (mkF m 73 #[iv p0, iv p1, iv p2, iv p3, iv p4, iv (own_n nn), rv b1, rv b3, iv (own_n nn), iv 1, iv (own_n kq13), iv (own_n kq14), iv 1, .unset, .unset, .unset, .unset, .unset, .unset, .unset, .unset, .unset, .unset, .unset, .unset, .unset] []) _
            refine XS.aload X19.here hx rfl (hb hby at_73) rfl rfl ?_
            refine XS.iload X19.here hx rfl (hb hby at_75) rfl ?_
            refine XS.iload X19.here hx rfl (hb hby at_77) rfl ?_
            refine st123 _ ?_
            refine XS.istore X123.here hx rfl (hb hby at_82) rfl (l' := #[iv p0, iv p1, iv p2, iv p3, iv p4, iv (own_n nn), rv b1, rv b3, iv (own_n nn), iv 1, iv (own_n kq13), iv (own_n kq14), iv 1, iv 1, .unset, .unset, .unset, .unset, .unset, .unset, .unset, .unset, .unset, .unset, .unset, .unset]) rfl ?_
            refine XS.iload X123.here hx rfl (hb hby at_84) rfl ?_
            refine XS.ifNo X123.here hx rfl (hb hby at_86) rfl (XT.i0_eq_f (by decide)) ?_
            refine XS.iload X123.here hx rfl (hb hby at_89) rfl ?_
            show oS p e below T123 (mkF m 91 #[iv p0, iv p1, iv p2, iv p3, iv p4, iv (own_n nn), rv b1, rv b3, iv (own_n nn), iv 1, iv (own_n kq13), iv (own_n kq14), iv 1, iv 1, .unset, .unset, .unset, .unset, .unset, .unset, .unset, .unset, .unset, .unset, .unset, .unset] [(.int (own_n nn))]) _
            refine XT.iconstV X123.here hx rfl (1 : Int32) (hb hby at_91) (by decide) ?_
            refine XS.isub X123.here hx rfl (hb hby at_92) rfl ?_
            refine XS.istore X123.here hx rfl (hb hby at_93) rfl (l' := #[iv p0, iv p1, iv p2, iv p3, iv p4, iv (own_n nn), rv b1, rv b3, iv (((own_n nn) - (1 : Int32))), iv 1, iv (own_n kq13), iv (own_n kq14), iv 1, iv 1, .unset, .unset, .unset, .unset, .unset, .unset, .unset, .unset, .unset, .unset, .unset, .unset]) rfl ?_
            refine XS.iload X123.here hx rfl (hb hby at_95) rfl ?_
            refine XS.ifNo X123.here hx rfl (hb hby at_97) rfl (XT.i0_eq_f (by decide)) ?_
            refine XS.iload X123.here hx rfl (hb hby at_100) rfl ?_
            refine XS.iload X123.here hx rfl (hb hby at_102) rfl ?_
            refine XS.icmpNo X123.here hx rfl (hb hby at_104) rfl (XT.ii_ne_f (by decide)) ?_
            show oS p e below T123 (mkF m 107 #[iv p0, iv p1, iv p2, iv p3, iv p4, iv (own_n nn), rv b1, rv b3, iv (((own_n nn) - (1 : Int32))), iv 1, iv (own_n kq13), iv (own_n kq14), iv 1, iv 1, .unset, .unset, .unset, .unset, .unset, .unset, .unset, .unset, .unset, .unset, .unset, .unset] []) _
            refine XS.aload X123.here hx rfl (hb hby at_107) rfl rfl ?_
            refine st125 _ ?_
            refine XS.iload X125.here hx rfl (hb hby at_112) rfl ?_
            refine XS.icmpNo X125.here hx rfl (hb hby at_114) rfl (XT.ii_ne_f rfl) ?_
            refine XT.iconstV X125.here hx rfl (1 : Int32) (hb hby at_117) (by decide) ?_
            refine XS.goto X125.here hx rfl (pc0 := 118) (pc' := 122) rfl (hb hby at_118) (by decide) (by decide) ?_
            refine XS.istore X125.here hx rfl (hb hby at_122) rfl (l' := #[iv p0, iv p1, iv p2, iv p3, iv p4, iv (own_n nn), rv b1, rv b3, iv (((own_n nn) - (1 : Int32))), iv 1, iv (own_n kq13), iv (own_n kq14), iv 1, iv 1, .unset, .unset, .unset, .unset, .unset, .unset, .unset, .unset, .unset, .unset, .unset, .unset]) rfl ?_
            refine XS.iloadN X125.here hx rfl (hb hby at_124) rfl ?_
            show oS p e below T125 (mkF m 125 #[iv p0, iv p1, iv p2, iv p3, iv p4, iv (own_n nn), rv b1, rv b3, iv (((own_n nn) - (1 : Int32))), iv 1, iv (own_n kq13), iv (own_n kq14), iv 1, iv 1, .unset, .unset, .unset, .unset, .unset, .unset, .unset, .unset, .unset, .unset, .unset, .unset] [(.int p2)]) _
            refine XS.iload X125.here hx rfl (hb hby at_125) rfl ?_
            refine st127 _ ?_
            refine XS.istore X127.here hx rfl (hb hby at_130) rfl (l' := #[iv p0, iv p1, iv p2, iv p3, iv p4, iv (own_n nn), rv b1, rv b3, iv (((own_n nn) - (1 : Int32))), iv 1, iv (own_n kq13), iv (own_n kq14), iv 1, iv 1, iv (own_n kq127), .unset, .unset, .unset, .unset, .unset, .unset, .unset, .unset, .unset, .unset, .unset]) rfl ?_
            refine XS.iloadN X127.here hx rfl (hb hby at_132) rfl ?_
            refine XS.iload X127.here hx rfl (hb hby at_133) rfl ?_
            refine st128 _ ?_
            refine XS.istore X128.here hx rfl (hb hby at_138) rfl (l' := #[iv p0, iv p1, iv p2, iv p3, iv p4, iv (own_n nn), rv b1, rv b3, iv (((own_n nn) - (1 : Int32))), iv 1, iv (own_n kq13), iv (own_n kq14), iv 1, iv 1, iv (own_n kq127), iv (own_n kq128), .unset, .unset, .unset, .unset, .unset, .unset, .unset, .unset, .unset, .unset]) rfl ?_
            refine XS.aload X128.here hx rfl (hb hby at_140) rfl rfl ?_
            show oS p e below T128 (mkF m 142 #[iv p0, iv p1, iv p2, iv p3, iv p4, iv (own_n nn), rv b1, rv b3, iv (((own_n nn) - (1 : Int32))), iv 1, iv (own_n kq13), iv (own_n kq14), iv 1, iv 1, iv (own_n kq127), iv (own_n kq128), .unset, .unset, .unset, .unset, .unset, .unset, .unset, .unset, .unset, .unset] [(.ref b1)]) _
            refine XS.iload X128.here hx rfl (hb hby at_142) rfl ?_
            refine XS.iload X128.here hx rfl (hb hby at_144) rfl ?_
            refine st131 _ ?_
            refine XS.istore X131.here hx rfl (hb hby at_149) rfl (l' := #[iv p0, iv p1, iv p2, iv p3, iv p4, iv (own_n nn), rv b1, rv b3, iv (((own_n nn) - (1 : Int32))), iv 1, iv (own_n kq13), iv (own_n kq14), iv 1, iv 1, iv (own_n kq127), iv (own_n kq128), iv 1, .unset, .unset, .unset, .unset, .unset, .unset, .unset, .unset, .unset]) rfl ?_
            refine XS.aload X131.here hx rfl (hb hby at_151) rfl rfl ?_
            refine XS.iload X131.here hx rfl (hb hby at_153) rfl ?_
            refine XS.iload X131.here hx rfl (hb hby at_155) rfl ?_
            refine st179 _ ?_
            show oS p e below T179 (mkF m 160 #[iv p0, iv p1, iv p2, iv p3, iv p4, iv (own_n nn), rv b1, rv b3, iv (((own_n nn) - (1 : Int32))), iv 1, iv (own_n kq13), iv (own_n kq14), iv 1, iv 1, iv (own_n kq127), iv (own_n kq128), iv 1, .unset, .unset, .unset, .unset, .unset, .unset, .unset, .unset, .unset] [(.int 1)]) _
            refine XS.istore X179.here hx rfl (hb hby at_160) rfl (l' := #[iv p0, iv p1, iv p2, iv p3, iv p4, iv (own_n nn), rv b1, rv b3, iv (((own_n nn) - (1 : Int32))), iv 1, iv (own_n kq13), iv (own_n kq14), iv 1, iv 1, iv (own_n kq127), iv (own_n kq128), iv 1, iv 1, .unset, .unset, .unset, .unset, .unset, .unset, .unset, .unset]) rfl ?_
            refine XS.iload X179.here hx rfl (hb hby at_162) rfl ?_
            refine XS.ifNo X179.here hx rfl (hb hby at_164) rfl (XT.i0_eq_f (by decide)) ?_
            refine XS.iload X179.here hx rfl (hb hby at_167) rfl ?_
            refine XT.iconstV X179.here hx rfl (1 : Int32) (hb hby at_169) (by decide) ?_
            refine XS.isub X179.here hx rfl (hb hby at_170) rfl ?_
            refine XS.istore X179.here hx rfl (hb hby at_171) rfl (l' := #[iv p0, iv p1, iv p2, iv p3, iv p4, iv (own_n nn), rv b1, rv b3, iv ((((own_n nn) - (1 : Int32)) - (1 : Int32))), iv 1, iv (own_n kq13), iv (own_n kq14), iv 1, iv 1, iv (own_n kq127), iv (own_n kq128), iv 1, iv 1, .unset, .unset, .unset, .unset, .unset, .unset, .unset, .unset]) rfl ?_
            refine XS.iload X179.here hx rfl (hb hby at_173) rfl ?_
            show oS p e below T179 (mkF m 175 #[iv p0, iv p1, iv p2, iv p3, iv p4, iv (own_n nn), rv b1, rv b3, iv ((((own_n nn) - (1 : Int32)) - (1 : Int32))), iv 1, iv (own_n kq13), iv (own_n kq14), iv 1, iv 1, iv (own_n kq127), iv (own_n kq128), iv 1, iv 1, .unset, .unset, .unset, .unset, .unset, .unset, .unset, .unset] [(.int 1)]) _
            refine XS.ifNo X179.here hx rfl (hb hby at_175) rfl (XT.i0_eq_f (by decide)) ?_
            refine XS.iload X179.here hx rfl (hb hby at_178) rfl ?_
            refine XS.iload X179.here hx rfl (hb hby at_180) rfl ?_
            refine XS.icmpNo X179.here hx rfl (hb hby at_182) rfl (XT.ii_ne_f (by decide)) ?_
            refine XS.aload X179.here hx rfl (hb hby at_185) rfl rfl ?_
            refine st181 _ ?_
            refine XS.iload X181.here hx rfl (hb hby at_190) rfl ?_
            refine XS.icmpNo X181.here hx rfl (hb hby at_192) rfl (XT.ii_ne_f rfl) ?_
            show oS p e below T181 (mkF m 195 #[iv p0, iv p1, iv p2, iv p3, iv p4, iv (own_n nn), rv b1, rv b3, iv ((((own_n nn) - (1 : Int32)) - (1 : Int32))), iv 1, iv (own_n kq13), iv (own_n kq14), iv 1, iv 1, iv (own_n kq127), iv (own_n kq128), iv 1, iv 1, .unset, .unset, .unset, .unset, .unset, .unset, .unset, .unset] []) _
            refine XT.iconstV X181.here hx rfl (1 : Int32) (hb hby at_195) (by decide) ?_
            refine XS.goto X181.here hx rfl (pc0 := 196) (pc' := 200) rfl (hb hby at_196) (by decide) (by decide) ?_
            refine XS.istore X181.here hx rfl (hb hby at_200) rfl (l' := #[iv p0, iv p1, iv p2, iv p3, iv p4, iv (own_n nn), rv b1, rv b3, iv ((((own_n nn) - (1 : Int32)) - (1 : Int32))), iv 1, iv (own_n kq13), iv (own_n kq14), iv 1, iv 1, iv (own_n kq127), iv (own_n kq128), iv 1, iv 1, .unset, .unset, .unset, .unset, .unset, .unset, .unset, .unset]) rfl ?_
            refine XS.iloadN X181.here hx rfl (hb hby at_202) rfl ?_
            refine XS.iload X181.here hx rfl (hb hby at_203) rfl ?_
            refine st183 _ ?_
            refine XS.istore X183.here hx rfl (hb hby at_208) rfl (l' := #[iv p0, iv p1, iv p2, iv p3, iv p4, iv (own_n nn), rv b1, rv b3, iv ((((own_n nn) - (1 : Int32)) - (1 : Int32))), iv 1, iv (own_n kq13), iv (own_n kq14), iv 1, iv 1, iv (own_n kq127), iv (own_n kq128), iv 1, iv 1, iv (own_n kq183), .unset, .unset, .unset, .unset, .unset, .unset, .unset]) rfl ?_
            refine XS.iloadN X183.here hx rfl (hb hby at_210) rfl ?_
            show oS p e below T183 (mkF m 211 #[iv p0, iv p1, iv p2, iv p3, iv p4, iv (own_n nn), rv b1, rv b3, iv ((((own_n nn) - (1 : Int32)) - (1 : Int32))), iv 1, iv (own_n kq13), iv (own_n kq14), iv 1, iv 1, iv (own_n kq127), iv (own_n kq128), iv 1, iv 1, iv (own_n kq183), .unset, .unset, .unset, .unset, .unset, .unset, .unset] [(.int p3)]) _
            refine XS.iload X183.here hx rfl (hb hby at_211) rfl ?_
            refine st184 _ ?_
            refine XS.istore X184.here hx rfl (hb hby at_216) rfl (l' := #[iv p0, iv p1, iv p2, iv p3, iv p4, iv (own_n nn), rv b1, rv b3, iv ((((own_n nn) - (1 : Int32)) - (1 : Int32))), iv 1, iv (own_n kq13), iv (own_n kq14), iv 1, iv 1, iv (own_n kq127), iv (own_n kq128), iv 1, iv 1, iv (own_n kq183), iv (own_n kq184), .unset, .unset, .unset, .unset, .unset, .unset]) rfl ?_
            refine XS.aload X184.here hx rfl (hb hby at_218) rfl rfl ?_
            refine XS.iload X184.here hx rfl (hb hby at_220) rfl ?_
            refine XS.iload X184.here hx rfl (hb hby at_222) rfl ?_
            refine st187 _ ?_
            refine XS.istore X187.here hx rfl (hb hby at_227) rfl (l' := #[iv p0, iv p1, iv p2, iv p3, iv p4, iv (own_n nn), rv b1, rv b3, iv ((((own_n nn) - (1 : Int32)) - (1 : Int32))), iv 1, iv (own_n kq13), iv (own_n kq14), iv 1, iv 1, iv (own_n kq127), iv (own_n kq128), iv 1, iv 1, iv (own_n kq183), iv (own_n kq184), iv 1, .unset, .unset, .unset, .unset, .unset]) rfl ?_
            show oS p e below T187 (mkF m 229 #[iv p0, iv p1, iv p2, iv p3, iv p4, iv (own_n nn), rv b1, rv b3, iv ((((own_n nn) - (1 : Int32)) - (1 : Int32))), iv 1, iv (own_n kq13), iv (own_n kq14), iv 1, iv 1, iv (own_n kq127), iv (own_n kq128), iv 1, iv 1, iv (own_n kq183), iv (own_n kq184), iv 1, .unset, .unset, .unset, .unset, .unset] []) _
            refine XS.aload X187.here hx rfl (hb hby at_229) rfl rfl ?_
            refine XS.iload X187.here hx rfl (hb hby at_231) rfl ?_
            refine XS.iload X187.here hx rfl (hb hby at_233) rfl ?_
            refine st207 _ ?_
            refine XS.istore X207.here hx rfl (hb hby at_238) rfl (l' := #[iv p0, iv p1, iv p2, iv p3, iv p4, iv (own_n nn), rv b1, rv b3, iv ((((own_n nn) - (1 : Int32)) - (1 : Int32))), iv 1, iv (own_n kq13), iv (own_n kq14), iv 1, iv 1, iv (own_n kq127), iv (own_n kq128), iv 1, iv 1, iv (own_n kq183), iv (own_n kq184), iv 1, iv 1, .unset, .unset, .unset, .unset]) rfl ?_
            refine XS.iload X207.here hx rfl (hb hby at_240) rfl ?_
            refine XS.ifNo X207.here hx rfl (hb hby at_242) rfl (XT.i0_eq_f (by decide)) ?_
            refine XS.iload X207.here hx rfl (hb hby at_245) rfl ?_
            show oS p e below T207 (mkF m 247 #[iv p0, iv p1, iv p2, iv p3, iv p4, iv (own_n nn), rv b1, rv b3, iv ((((own_n nn) - (1 : Int32)) - (1 : Int32))), iv 1, iv (own_n kq13), iv (own_n kq14), iv 1, iv 1, iv (own_n kq127), iv (own_n kq128), iv 1, iv 1, iv (own_n kq183), iv (own_n kq184), iv 1, iv 1, .unset, .unset, .unset, .unset] [(.int (((own_n nn) - (1 : Int32)) - (1 : Int32)))]) _
            refine XT.iconstV X207.here hx rfl (1 : Int32) (hb hby at_247) (by decide) ?_
            refine XS.isub X207.here hx rfl (hb hby at_248) rfl ?_
            refine XS.istore X207.here hx rfl (hb hby at_249) rfl (l' := #[iv p0, iv p1, iv p2, iv p3, iv p4, iv (own_n nn), rv b1, rv b3, iv (((((own_n nn) - (1 : Int32)) - (1 : Int32)) - (1 : Int32))), iv 1, iv (own_n kq13), iv (own_n kq14), iv 1, iv 1, iv (own_n kq127), iv (own_n kq128), iv 1, iv 1, iv (own_n kq183), iv (own_n kq184), iv 1, iv 1, .unset, .unset, .unset, .unset]) rfl ?_
            refine XS.iload X207.here hx rfl (hb hby at_251) rfl ?_
            refine XS.ifNo X207.here hx rfl (hb hby at_253) rfl (XT.i0_eq_f (by decide)) ?_
            refine XS.iload X207.here hx rfl (hb hby at_256) rfl ?_
            refine XS.iload X207.here hx rfl (hb hby at_258) rfl ?_
            refine XS.icmpNo X207.here hx rfl (hb hby at_260) rfl (XT.ii_ne_f (by decide)) ?_
            show oS p e below T207 (mkF m 263 #[iv p0, iv p1, iv p2, iv p3, iv p4, iv (own_n nn), rv b1, rv b3, iv (((((own_n nn) - (1 : Int32)) - (1 : Int32)) - (1 : Int32))), iv 1, iv (own_n kq13), iv (own_n kq14), iv 1, iv 1, iv (own_n kq127), iv (own_n kq128), iv 1, iv 1, iv (own_n kq183), iv (own_n kq184), iv 1, iv 1, .unset, .unset, .unset, .unset] []) _
            refine XS.aload X207.here hx rfl (hb hby at_263) rfl rfl ?_
            refine st209 _ ?_
            refine XS.iload X209.here hx rfl (hb hby at_268) rfl ?_
            refine XS.icmpNo X209.here hx rfl (hb hby at_270) rfl (XT.ii_ne_f rfl) ?_
            refine XT.iconstV X209.here hx rfl (1 : Int32) (hb hby at_273) (by decide) ?_
            refine XS.goto X209.here hx rfl (pc0 := 274) (pc' := 278) rfl (hb hby at_274) (by decide) (by decide) ?_
            refine XS.istore X209.here hx rfl (hb hby at_278) rfl (l' := #[iv p0, iv p1, iv p2, iv p3, iv p4, iv (own_n nn), rv b1, rv b3, iv (((((own_n nn) - (1 : Int32)) - (1 : Int32)) - (1 : Int32))), iv 1, iv (own_n kq13), iv (own_n kq14), iv 1, iv 1, iv (own_n kq127), iv (own_n kq128), iv 1, iv 1, iv (own_n kq183), iv (own_n kq184), iv 1, iv 1, .unset, .unset, .unset, .unset]) rfl ?_
            refine XS.iload X209.here hx rfl (hb hby at_280) rfl ?_
            show oS p e below T209 (mkF m 282 #[iv p0, iv p1, iv p2, iv p3, iv p4, iv (own_n nn), rv b1, rv b3, iv (((((own_n nn) - (1 : Int32)) - (1 : Int32)) - (1 : Int32))), iv 1, iv (own_n kq13), iv (own_n kq14), iv 1, iv 1, iv (own_n kq127), iv (own_n kq128), iv 1, iv 1, iv (own_n kq183), iv (own_n kq184), iv 1, iv 1, .unset, .unset, .unset, .unset] [(.int p4)]) _
            refine XS.iload X209.here hx rfl (hb hby at_282) rfl ?_
            refine st211 _ ?_
            refine XS.istore X211.here hx rfl (hb hby at_287) rfl (l' := #[iv p0, iv p1, iv p2, iv p3, iv p4, iv (own_n nn), rv b1, rv b3, iv (((((own_n nn) - (1 : Int32)) - (1 : Int32)) - (1 : Int32))), iv 1, iv (own_n kq13), iv (own_n kq14), iv 1, iv 1, iv (own_n kq127), iv (own_n kq128), iv 1, iv 1, iv (own_n kq183), iv (own_n kq184), iv 1, iv 1, iv (own_n kq211), .unset, .unset, .unset]) rfl ?_
            refine XS.iload X211.here hx rfl (hb hby at_289) rfl ?_
            refine XS.iload X211.here hx rfl (hb hby at_291) rfl ?_
            refine st212 _ ?_
            refine XS.istore X212.here hx rfl (hb hby at_296) rfl (l' := #[iv p0, iv p1, iv p2, iv p3, iv p4, iv (own_n nn), rv b1, rv b3, iv (((((own_n nn) - (1 : Int32)) - (1 : Int32)) - (1 : Int32))), iv 1, iv (own_n kq13), iv (own_n kq14), iv 1, iv 1, iv (own_n kq127), iv (own_n kq128), iv 1, iv 1, iv (own_n kq183), iv (own_n kq184), iv 1, iv 1, iv (own_n kq211), iv (own_n kq212), .unset, .unset]) rfl ?_
            refine XS.aload X212.here hx rfl (hb hby at_298) rfl rfl ?_
            show oS p e below T212 (mkF m 300 #[iv p0, iv p1, iv p2, iv p3, iv p4, iv (own_n nn), rv b1, rv b3, iv (((((own_n nn) - (1 : Int32)) - (1 : Int32)) - (1 : Int32))), iv 1, iv (own_n kq13), iv (own_n kq14), iv 1, iv 1, iv (own_n kq127), iv (own_n kq128), iv 1, iv 1, iv (own_n kq183), iv (own_n kq184), iv 1, iv 1, iv (own_n kq211), iv (own_n kq212), .unset, .unset] [(.ref b1)]) _
            refine XS.iload X212.here hx rfl (hb hby at_300) rfl ?_
            refine XS.iload X212.here hx rfl (hb hby at_302) rfl ?_
            refine st215 _ ?_
            refine XS.istore X215.here hx rfl (hb hby at_307) rfl (l' := #[iv p0, iv p1, iv p2, iv p3, iv p4, iv (own_n nn), rv b1, rv b3, iv (((((own_n nn) - (1 : Int32)) - (1 : Int32)) - (1 : Int32))), iv 1, iv (own_n kq13), iv (own_n kq14), iv 1, iv 1, iv (own_n kq127), iv (own_n kq128), iv 1, iv 1, iv (own_n kq183), iv (own_n kq184), iv 1, iv 1, iv (own_n kq211), iv (own_n kq212), iv 1, .unset]) rfl ?_
            refine XS.aload X215.here hx rfl (hb hby at_309) rfl rfl ?_
            refine XS.iload X215.here hx rfl (hb hby at_311) rfl ?_
            refine XS.iload X215.here hx rfl (hb hby at_313) rfl ?_
            refine st222 _ ?_
            show oS p e below T222 (mkF m 318 #[iv p0, iv p1, iv p2, iv p3, iv p4, iv (own_n nn), rv b1, rv b3, iv (((((own_n nn) - (1 : Int32)) - (1 : Int32)) - (1 : Int32))), iv 1, iv (own_n kq13), iv (own_n kq14), iv 1, iv 1, iv (own_n kq127), iv (own_n kq128), iv 1, iv 1, iv (own_n kq183), iv (own_n kq184), iv 1, iv 1, iv (own_n kq211), iv (own_n kq212), iv 1, .unset] [(.int 1)]) _
            refine XS.istore X222.here hx rfl (hb hby at_318) rfl (l' := #[iv p0, iv p1, iv p2, iv p3, iv p4, iv (own_n nn), rv b1, rv b3, iv (((((own_n nn) - (1 : Int32)) - (1 : Int32)) - (1 : Int32))), iv 1, iv (own_n kq13), iv (own_n kq14), iv 1, iv 1, iv (own_n kq127), iv (own_n kq128), iv 1, iv 1, iv (own_n kq183), iv (own_n kq184), iv 1, iv 1, iv (own_n kq211), iv (own_n kq212), iv 1, iv 1]) rfl ?_
            refine XS.iload X222.here hx rfl (hb hby at_320) rfl ?_
            refine XS.ifNo X222.here hx rfl (hb hby at_322) rfl (XT.i0_eq_f (by decide)) ?_
            refine XS.iload X222.here hx rfl (hb hby at_325) rfl ?_
            refine XT.iconstV X222.here hx rfl (1 : Int32) (hb hby at_327) (by decide) ?_
            refine XS.isub X222.here hx rfl (hb hby at_328) rfl ?_
            refine XS.istore X222.here hx rfl (hb hby at_329) rfl (l' := #[iv p0, iv p1, iv p2, iv p3, iv p4, iv (own_n nn), rv b1, rv b3, iv ((((((own_n nn) - (1 : Int32)) - (1 : Int32)) - (1 : Int32)) - (1 : Int32))), iv 1, iv (own_n kq13), iv (own_n kq14), iv 1, iv 1, iv (own_n kq127), iv (own_n kq128), iv 1, iv 1, iv (own_n kq183), iv (own_n kq184), iv 1, iv 1, iv (own_n kq211), iv (own_n kq212), iv 1, iv 1]) rfl ?_
            refine XS.iload X222.here hx rfl (hb hby at_331) rfl ?_
            show oS p e below T222 (mkF m 333 #[iv p0, iv p1, iv p2, iv p3, iv p4, iv (own_n nn), rv b1, rv b3, iv ((((((own_n nn) - (1 : Int32)) - (1 : Int32)) - (1 : Int32)) - (1 : Int32))), iv 1, iv (own_n kq13), iv (own_n kq14), iv 1, iv 1, iv (own_n kq127), iv (own_n kq128), iv 1, iv 1, iv (own_n kq183), iv (own_n kq184), iv 1, iv 1, iv (own_n kq211), iv (own_n kq212), iv 1, iv 1] [(.int 1)]) _
            refine XS.ifNo X222.here hx rfl (hb hby at_333) rfl (XT.i0_eq_f (by decide)) ?_
            refine XS.iload X222.here hx rfl (hb hby at_336) rfl ?_
            refine XS.iload X222.here hx rfl (hb hby at_338) rfl ?_
            refine XS.icmpNo X222.here hx rfl (hb hby at_340) rfl (XT.ii_ne_f (by decide)) ?_
            refine XS.aload X222.here hx rfl (hb hby at_343) rfl rfl ?_
            refine st224 _ ?_
            refine XS.iload X224.here hx rfl (hb hby at_348) rfl ?_
            refine XS.icmpNo X224.here hx rfl (hb hby at_350) rfl (XT.ii_ne_f rfl) ?_
            show oS p e below T224 (mkF m 353 #[iv p0, iv p1, iv p2, iv p3, iv p4, iv (own_n nn), rv b1, rv b3, iv ((((((own_n nn) - (1 : Int32)) - (1 : Int32)) - (1 : Int32)) - (1 : Int32))), iv 1, iv (own_n kq13), iv (own_n kq14), iv 1, iv 1, iv (own_n kq127), iv (own_n kq128), iv 1, iv 1, iv (own_n kq183), iv (own_n kq184), iv 1, iv 1, iv (own_n kq211), iv (own_n kq212), iv 1, iv 1] []) _
            refine XT.iconstV X224.here hx rfl (1 : Int32) (hb hby at_353) (by decide) ?_
            refine XS.goto X224.here hx rfl (pc0 := 354) (pc' := 358) rfl (hb hby at_354) (by decide) (by decide) ?_
            refine XS.istore X224.here hx rfl (hb hby at_358) rfl (l' := #[iv p0, iv p1, iv p2, iv p3, iv p4, iv (own_n nn), rv b1, rv b3, iv ((((((own_n nn) - (1 : Int32)) - (1 : Int32)) - (1 : Int32)) - (1 : Int32))), iv 1, iv (own_n kq13), iv (own_n kq14), iv 1, iv 1, iv (own_n kq127), iv (own_n kq128), iv 1, iv 1, iv (own_n kq183), iv (own_n kq184), iv 1, iv 1, iv (own_n kq211), iv (own_n kq212), iv 1, iv 1]) rfl ?_
            refine XS.iload X224.here hx rfl (hb hby at_360) rfl ?_
            exact kz)
          obtain ⟨fs, hr, hrun, hended, hW, hsame⟩ := X224.leave (v := some (.int 1)) (fun h => by rw [Bd.returns] at h; cases h)
          refine ⟨_, _, pre0 _ (S226 _ ?_), hrun, hended, _, _, rfl, ?_, ⟨_, rfl⟩, hW, hsame.mono (by decide) (by decide)⟩
          · exact retN X224 hx (t := .boolean) Bd.returns (by simp) (hb hby at_362) hr
          · show Qrm0s Z p0 p1 p2 p3 p4 nn h0 n0 _ T224.heap _
            rw [e224]
            exact ⟨rfl, N224⟩
set_option maxRecDepth 65536 in
set_option maxHeartbeats 40000000 in
theorem comes_1 {Post : Tables → Env → Array Value → State → Outcome → State → Prop} (hpost : ∀ tb e args s v u, (limb_1_1.after args s (.returned v) u = true ∧ limb_1_2.after args s (.returned v) u = true ∧ True) → FrameEnd s (.returned v) u (Jvm.fieldLocs frame_1_writes args s ++ Jvm.arrayLocs frame_1_arrays args s ++ Jvm.staticLocs frame_1_statics s) 16 128 → Post tb e args s (.returned v) u) :
    ArmFor flags0 classFile x code maxLocals ret World_1 tables_1 room_1 Calls_1 rest_1 Pre_1 Post := by
  intro l hfl _ _ p e ha hc hk s m args below hf hA hF happ hP
  obtain ⟨hcalls, hrest, hpre⟩ := hP
  obtain ⟨-, -, -, hnamed, -, -, -, hat⟩ := (Spec.applies_iff hf).mp happ
  obtain ⟨hg, hn⟩ := and_e (Cond.before_iff.mp (show (Jvm.Cond.and given_1 narrow_1).before args s = true from hpre))
  obtain ⟨g0, r0⟩ := and_e hg
  obtain ⟨g1, r1⟩ := and_e r0
  obtain ⟨g2, r2⟩ := and_e r1
  obtain ⟨g3, r3⟩ := and_e r2
  obtain ⟨g4, r4⟩ := and_e r3
  obtain ⟨w0, w1, w2, w3, w4, rfl⟩ : ∃ w0 w1 w2 w3 w4 : Value, args = #[w0, w1, w2, w3, w4] := by
    have hs : args.size = 5 := by simpa [Cond.value, given_1] using g0
    obtain ⟨L⟩ := args
    match L, hs with
    | [w0, w1, w2, w3, w4], _ => exact ⟨w0, w1, w2, w3, w4, rfl⟩
  have hw := fun d (hd : d ∈ tables_1) => atoms_spec (ws := Jvm.Cond.code x code maxLocals ret :: tables_1) hat d (List.mem_cons_of_mem _ hd)
  have hfit : Fit s := fun {y c} hc i hi => by
    obtain ⟨ha, rfl⟩ := Array.getElem?_eq_some_iff.mp hc
    have q := List.all_eq_true.mp ((Array.all_eq_true_iff_forall_mem.mp hF) _ (Array.getElem_mem ha)) i (List.mem_range.mpr hi)
    simpa [Array.getElem?_eq_getElem hi] using q
  obtain ⟨i0, ei0⟩ := is_v g1
  obtain rfl : w0 = (.int i0) := Option.some.inj ei0
  obtain ⟨i1, ei1⟩ := is_v g2
  obtain rfl : w1 = (.int i1) := Option.some.inj ei1
  obtain ⟨i2, ei2⟩ := is_v g3
  obtain rfl : w2 = (.int i2) := Option.some.inj ei2
  obtain ⟨i3, ei3⟩ := is_v g4
  obtain rfl : w3 = (.int i3) := Option.some.inj ei3
  obtain ⟨i4, ei4⟩ := is_v r4
  obtain rfl : w4 = (.int i4) := Option.some.inj ei4
  obtain ⟨nn, h1, hnn, hn⟩ := own_nn i0
  obtain ⟨n, o, h1, h2, h3, _, L, rfl, ⟨rfl, N⟩, hq⟩ := rm0s l s _ hw tables_1 i0 i1 i2 i3 i4 nn s.heap s.heap.size (Nat.le_refl _) h1 hnn hn p e ha hc hk s m _ below hf ((Spec.applies_iff_loose hf).mp happ).1 ⟨rfl, State.Warmed39.refl s, rfl⟩ trivial
  refine ⟨n, _, h1, h2, h3, hpost _ _ _ _ _ _ ⟨Cond.after_iff.mpr rfl, Cond.after_iff.mpr (eq_i res_at (Term.int_eval (1)) rfl), trivial⟩ ⟨hq.1, hq.2.1, (hq.2.2.sift fun y hy => Or.inr (N y hy)).mono (by decide) (by decide)⟩⟩
theorem main_1_1 : Claimed_1_1 := comes_1 fun _ _ _ _ _ _ h hF => ⟨h.1, hF⟩
theorem main_1_2 : Claimed_1_2 := comes_1 fun _ _ _ _ _ _ h hF => ⟨h.2.1, hF⟩
end Jvm.Pilot.@@N@@
namespace Jvm.Pilot.@@N@@
open Jvm Jvm.ClassFile Sem Op Lib Jvm.Free Jvm.Stand Jvm.Pilot.@@N@@.Jvm.D
/-! MADE BY PROGRAM (witnessworld.py) out of the Statement's table words and the real class files: 9 classes; the members and pool entries that the words name. The judged class is class 1, her method 4. -/
namespace start1
open Jvm.ClassFile
def u (s : String) : CpInfo := .utf8 (stringToUtf16 s)
/-- a pool by its gaps: so many unusable entries, then the entry; so many at the end -/
def gap : Nat → List CpInfo → List CpInfo
  | 0, r => r
  | n + 1, r => .unusable :: gap n r
def poolList (es : List (Nat × CpInfo)) (last : Nat) : List CpInfo := es.foldr (fun e r => gap e.1 (e.2 :: r)) (gap last [])
def pool (es : List (Nat × CpInfo)) (last : Nat) : Array CpInfo := ⟨poolList es last⟩
def fileOf (pool : Array CpInfo) (this : Nat) (attrs : Array Attribute := #[]) (ms : Array MethodInfo := #[]) (fl : Nat := 33) (sup : Nat := 0) (ifs : Array Nat := #[]) (fds : Array FieldInfo := #[]) : ClassFile where
  minorVersion := 0
  majorVersion := 65
  constantPool := pool
  accessFlags := fl
  thisClass := this
  superClass := sup
  interfaces := ifs
  fields := fds
  methods := ms
  attributes := attrs
def plain (name : String) (sup : Option ClassId) : Class where
  name := name
  kind := .ordinary
  loader := none
  accessFlags := 33
  super := sup
  interfaces := #[]
  cf := none
  fields := #[]
  methods := #[]
  instanceTypes := #[]
  staticTypes := #[]
  resolved := #[]
  callSites := []
  init := .initialized
  statics := none
  mirror := none

def pool0 : Array CpInfo := pool [(5, u "<init>"), (0, u "()V"), (1, .class_ 10), (1, u "java/lang/Object")] 113

def k0c0 : Code := { maxStack := 0, maxLocals := 1, code := object_method_1_code, exceptionTable := #[], attributes := #[] }
def k0m0 : Method := { name := "<init>", desc := "()V", sig := { parameters := [], returnType := none }, accessFlags := 1, code := some k0c0 }
/-- java/lang/Object -/
def k0 : Class := { plain "java/lang/Object" none with
  accessFlags := 33
  interfaces := #[]
  cf := some (fileOf pool0 8 #[] #[{ accessFlags := 1, nameIndex := 5, descriptorIndex := 6, attributes := #[] }] 33 0 #[] #[])
  fields := #[]
  methods := #[k0m0]
  instanceTypes := #[]
  staticTypes := #[]
  resolved := Array.replicate 124 none
  statics := none }

def pool1 : Array CpInfo := pool [(2, .class_ 4), (1, u "java/lang/Object"), (0, u "<init>"), (0, u "()V"), (0, .class_ 8), (0, u "com/example/graftwork/graftwork/generate/Components"), (0, .methodref 7 10), (0, .nameAndType 5 11), (0, u "(I)V"), (0, .methodref 13 14), (0, .class_ 15), (0, .nameAndType 16 17), (0, u "com/example/graftwork/graftwork/generate/ComponentsJoinPinLaw"), (0, u "first"), (0, u "(II)I"), (0, .methodref 13 19), (0, .nameAndType 20 17), (0, u "second"), (0, .methodref 7 22), (0, .nameAndType 23 24), (0, u "join"), (0, u "(II)Z"), (0, .methodref 13 26), (0, .nameAndType 27 28), (0, u "refJoin"), (0, u "([III)Z"), (0, .methodref 7 30), (0, .nameAndType 31 32), (0, u "count"), (0, u "()I"), (3, u "law"), (0, u "(IIIII)Z")] 4

def k1m0 : Method := { name := "<init>", desc := "()V", sig := { parameters := [], returnType := none }, accessFlags := 1, code := none }
def k1c1 : Code := { maxStack := 2, maxLocals := 2, code := method_2_code, exceptionTable := #[], attributes := #[] }
def k1m1 : Method := { name := "first", desc := "(II)I", sig := { parameters := [.int, .int], returnType := some .int }, accessFlags := 10, code := some k1c1 }
def k1c2 : Code := { maxStack := 2, maxLocals := 2, code := method_3_code, exceptionTable := #[], attributes := #[] }
def k1m2 : Method := { name := "second", desc := "(II)I", sig := { parameters := [.int, .int], returnType := some .int }, accessFlags := 10, code := some k1c2 }
def k1c3 : Code := { maxStack := 3, maxLocals := 5, code := method_4_code, exceptionTable := #[], attributes := #[] }
def k1m3 : Method := { name := "refJoin", desc := "([III)Z", sig := { parameters := [(.array .int), .int, .int], returnType := some .boolean }, accessFlags := 10, code := some k1c3 }
def k1c4 : Code := { maxStack := 4, maxLocals := 26, code := code, exceptionTable := #[], attributes := #[] }
def k1m4 : Method := { name := "law", desc := "(IIIII)Z", sig := { parameters := [.int, .int, .int, .int, .int], returnType := some .boolean }, accessFlags := 9, code := some k1c4 }
/-- com/example/graftwork/graftwork/generate/ComponentsJoinPinLaw -/
def k1 : Class := { plain "com/example/graftwork/graftwork/generate/ComponentsJoinPinLaw" (some 0) with
  accessFlags := 49
  interfaces := #[]
  cf := some (fileOf pool1 13 #[] #[{ accessFlags := 1, nameIndex := 5, descriptorIndex := 6, attributes := #[] }, { accessFlags := 10, nameIndex := 16, descriptorIndex := 17, attributes := #[] }, { accessFlags := 10, nameIndex := 20, descriptorIndex := 17, attributes := #[] }, { accessFlags := 10, nameIndex := 27, descriptorIndex := 28, attributes := #[] }, { accessFlags := 9, nameIndex := 36, descriptorIndex := 37, attributes := #[] }] 49 2 #[] #[])
  fields := #[]
  methods := #[k1m0, k1m1, k1m2, k1m3, k1m4]
  instanceTypes := #[]
  staticTypes := #[]
  resolved := Array.replicate 42 none
  statics := none }

def pool2 : Array CpInfo := pool [(1, .methodref 2 3), (0, .class_ 4), (0, .nameAndType 5 6), (0, u "java/lang/Object"), (0, u "<init>"), (0, u "()V"), (0, .fieldref 8 9), (0, .class_ 10), (0, .nameAndType 11 12), (0, u "com/example/graftwork/graftwork/generate/Components"), (0, u "parent"), (0, u "[I"), (0, .fieldref 8 14), (0, .nameAndType 15 16), (0, u "count"), (0, u "I"), (0, .methodref 8 18), (0, .nameAndType 19 20), (0, u "root"), (0, u "(I)I"), (0, u "(I)V"), (3, u "join"), (0, u "(II)Z"), (0, u "()I")] 2

def k2c0 : Code := { maxStack := 3, maxLocals := 3, code := prog_24_method_1_code, exceptionTable := #[], attributes := #[] }
def k2m0 : Method := { name := "<init>", desc := "(I)V", sig := { parameters := [.int], returnType := none }, accessFlags := 0, code := some k2c0 }
def k2c1 : Code := { maxStack := 3, maxLocals := 5, code := prog_24_method_2_code, exceptionTable := #[], attributes := #[] }
def k2m1 : Method := { name := "join", desc := "(II)Z", sig := { parameters := [.int, .int], returnType := some .boolean }, accessFlags := 0, code := some k2c1 }
def k2c2 : Code := { maxStack := 1, maxLocals := 1, code := prog_24_method_3_code, exceptionTable := #[], attributes := #[] }
def k2m2 : Method := { name := "count", desc := "()I", sig := { parameters := [], returnType := some .int }, accessFlags := 0, code := some k2c2 }
def k2c3 : Code := { maxStack := 5, maxLocals := 3, code := prog_24_method_4_code, exceptionTable := #[], attributes := #[] }
def k2m3 : Method := { name := "root", desc := "(I)I", sig := { parameters := [.int], returnType := some .int }, accessFlags := 2, code := some k2c3 }
/-- com/example/graftwork/graftwork/generate/Components -/
def k2 : Class := { plain "com/example/graftwork/graftwork/generate/Components" (some 0) with
  accessFlags := 48
  interfaces := #[]
  cf := some (fileOf pool2 8 #[] #[{ accessFlags := 0, nameIndex := 5, descriptorIndex := 21, attributes := #[] }, { accessFlags := 0, nameIndex := 25, descriptorIndex := 26, attributes := #[] }, { accessFlags := 0, nameIndex := 15, descriptorIndex := 27, attributes := #[] }, { accessFlags := 2, nameIndex := 19, descriptorIndex := 20, attributes := #[] }] 48 2 #[] #[{ accessFlags := 18, nameIndex := 11, descriptorIndex := 12, attributes := #[] }, { accessFlags := 2, nameIndex := 15, descriptorIndex := 16, attributes := #[] }])
  fields := #[{ name := "parent", type := (.array .int), accessFlags := 18, slot := 0, constantValue := 0 }, { name := "count", type := .int, accessFlags := 2, slot := 1, constantValue := 0 }]
  methods := #[k2m0, k2m1, k2m2, k2m3]
  instanceTypes := #[(.array .int), .int]
  staticTypes := #[]
  resolved := Array.replicate 30 none
  statics := none }

def pool3 : Array CpInfo := pool [(1, u "java/lang/Cloneable"), (0, .class_ 1), (0, u "java/lang/Object"), (0, .class_ 3)] 3

/-- java/lang/Cloneable -/
def k3 : Class := { plain "java/lang/Cloneable" (some 0) with
  accessFlags := 1537
  interfaces := #[]
  cf := some (fileOf pool3 2 #[] #[] 1537 4 #[] #[])
  fields := #[]
  methods := #[]
  instanceTypes := #[]
  staticTypes := #[]
  resolved := Array.replicate 8 none
  statics := none }

def pool4 : Array CpInfo := pool [(1, u "java/io/Serializable"), (0, .class_ 1), (0, u "java/lang/Object"), (0, .class_ 3)] 3

/-- java/io/Serializable -/
def k4 : Class := { plain "java/io/Serializable" (some 0) with
  accessFlags := 1537
  interfaces := #[]
  cf := some (fileOf pool4 2 #[] #[] 1537 4 #[] #[])
  fields := #[]
  methods := #[]
  instanceTypes := #[]
  staticTypes := #[]
  resolved := Array.replicate 8 none
  statics := none }

/-- the primitive byte -/
def k5 : Class := { plain "byte" none with kind := .primitive 'B', accessFlags := 0x411 }
/-- [B -/
def k6 : Class := { plain "[B" (some 0) with kind := .array 5 .byte, interfaces := #[3, 4], accessFlags := 1041 }

/-- the primitive int -/
def k7 : Class := { plain "int" none with kind := .primitive 'I', accessFlags := 0x411 }
/-- [I -/
def k8 : Class := { plain "[I" (some 0) with kind := .array 7 .int, interfaces := #[3, 4], accessFlags := 1041 }

def heap : Heap := #[]
def classes : Array Class := #[k0, k1, k2, k3, k4, k5, k6, k7, k8]
def interned : List (Array UInt16 × Addr) := []
def slotsUsed : Nat := 0
def theMethod : MethodId := ⟨1, 4⟩
def args0 : Array Value := #[.int 3, .int 65537, .int 2, .int 131073, .int 3]
def aboutOver (below : List Frame) : State where
  vm := { classes := classes, interned := interned.toArray }
  heap := heap
  slotsUsed := slotsUsed
  threads := #[{ frames := .invoking theMethod args0 :: below }]
def below0 : List Frame := [.native { method := ⟨0, 0⟩, args := #[] }]
def about1 : State := aboutOver below0
def p0 : Program := .bare "" "" ""
def e0 : Env := launch0.env 0 0 0
theorem w_frames : about1.frames = Frame.invoking theMethod args0 :: below0 := rfl
set_option maxRecDepth 65536 in
theorem w_args : argsFit about1.vm theMethod args0 = true := by decide +kernel
set_option maxRecDepth 65536 in
theorem w_heap : heapFits about1 = true := by decide +kernel
set_option maxRecDepth 65536 in
theorem w_runnable : about1.curStatus? = some .runnable := by decide +kernel
set_option maxRecDepth 65536 in
theorem w_alone : about1.alone = true := by decide +kernel
set_option maxRecDepth 65536 in
theorem w_named : about1.methodNamed? x = some theMethod := by decide +kernel
set_option maxRecDepth 65536 in
theorem w_hears : about1.hears theMethod below0 = true := by decide +kernel
set_option maxRecDepth 65536 in
theorem w_ripe : about1.ripe theMethod args0 below0 = true := by decide +kernel
theorem w_running : about1.status = .running := rfl
set_option maxRecDepth 65536 in
theorem w_room : about1.hasRoom e0.platform room_1 = true :=
  launch0.hasRoom_least _ room_1 (by decide +kernel) (by decide +kernel) (by decide +kernel) (by decide +kernel) (by decide +kernel) (by decide +kernel)
theorem allAtoms_all (ts : List Jvm.Cond) (a : Array Jvm.Value) (st : Jvm.State) : (allAtoms ts).before a st = ts.all (fun c => c.before a st) := by
  induction ts with
  | nil => rfl
  | cons c t ih =>
    show (Jvm.Cond.and c (allAtoms t)).before a st = _
    rw [Jvm.Cond.before_and, ih, List.all_cons]
def words1 : List Jvm.Cond := Jvm.Cond.code x code maxLocals ret :: tables_1
/-- a 'code' word, met by the world's own term for the bytes: nothing is compared byte by byte -/
theorem code_word {y : MethodName} {bytes : ByteArray} {mx : Nat} {rt : Option FieldType} {a : Array Value} {s : State} {m : MethodId} {meth : Method} {c : Code} (h1 : s.methodNamed? y = some m) (h2 : s.vm.method? m = some meth) (h3 : meth.code = some c) (h4 : c.code = bytes)
    (h5 : (c.maxLocals == mx && c.exceptionTable.isEmpty && decide (c.maxStack ≤ mostOperands) && decide (meth.sig.returnType = rt) && !meth.locks && decide (parseMethodDescriptor y.desc = some meth.sig)) = true) : (Jvm.Cond.code y bytes mx rt).before a s = true := by
  simp only [Bool.and_eq_true, beq_iff_eq, Bool.not_eq_true', decide_eq_true_eq] at h5
  obtain ⟨⟨⟨⟨⟨g1, g2⟩, g3⟩, g4⟩, g5⟩, g6⟩ := h5
  simp [Cond.before, Cond.holds, Cond.value, h1, h2, h3, h4, g1, g2, g3, g4, g5, g6]
def isCode : Jvm.Cond → Bool
  | .code _ _ _ _ => true
  | _ => false
theorem all_split {L : List Jvm.Cond} {P : Jvm.Cond → Bool} (h1 : L.all (fun c => isCode c || P c) = true) (h2 : ∀ c ∈ L.filter isCode, P c = true) : L.all P = true := by
  refine List.all_eq_true.mpr fun c hc => ?_
  have h := List.all_eq_true.mp h1 c hc
  rcases Bool.eq_false_or_eq_true (isCode c) with hi | hi
  · exact h2 c (List.mem_filter.mpr ⟨hc, hi⟩)
  · simpa [hi] using h
set_option maxRecDepth 65536 in
theorem w_c0 : (Jvm.Cond.code x code maxLocals ret).before args0 about1 = true := code_word (m := ⟨1, 4⟩) (meth := k1m4) (c := k1c4) (by decide +kernel) rfl rfl rfl (by decide +kernel)
set_option maxRecDepth 65536 in
theorem w_c1 : (Jvm.Cond.code ({ cls := "com/example/graftwork/graftwork/generate/Components", name := "<init>", desc := "(I)V" } : Jvm.MethodName) prog_24_method_1_code (3 : Nat) (Option.none : Option Jvm.ClassFile.FieldType)).before args0 about1 = true := code_word (m := ⟨2, 0⟩) (meth := k2m0) (c := k2c0) (by decide +kernel) rfl rfl rfl (by decide +kernel)
set_option maxRecDepth 65536 in
theorem w_c2 : (Jvm.Cond.code ({ cls := "java/lang/Object", name := "<init>", desc := "()V" } : Jvm.MethodName) object_method_1_code (1 : Nat) (Option.none : Option Jvm.ClassFile.FieldType)).before args0 about1 = true := code_word (m := ⟨0, 0⟩) (meth := k0m0) (c := k0c0) (by decide +kernel) rfl rfl rfl (by decide +kernel)
set_option maxRecDepth 65536 in
theorem w_c3 : (Jvm.Cond.code ({ cls := "com/example/graftwork/graftwork/generate/ComponentsJoinPinLaw", name := "first", desc := "(II)I" } : Jvm.MethodName) method_2_code (2 : Nat) (Option.some Jvm.ClassFile.FieldType.int)).before args0 about1 = true := code_word (m := ⟨1, 1⟩) (meth := k1m1) (c := k1c1) (by decide +kernel) rfl rfl rfl (by decide +kernel)
set_option maxRecDepth 65536 in
theorem w_c4 : (Jvm.Cond.code ({ cls := "com/example/graftwork/graftwork/generate/ComponentsJoinPinLaw", name := "second", desc := "(II)I" } : Jvm.MethodName) method_3_code (2 : Nat) (Option.some Jvm.ClassFile.FieldType.int)).before args0 about1 = true := code_word (m := ⟨1, 2⟩) (meth := k1m2) (c := k1c2) (by decide +kernel) rfl rfl rfl (by decide +kernel)
set_option maxRecDepth 65536 in
theorem w_c5 : (Jvm.Cond.code ({ cls := "com/example/graftwork/graftwork/generate/Components", name := "join", desc := "(II)Z" } : Jvm.MethodName) prog_24_method_2_code (5 : Nat) (Option.some Jvm.ClassFile.FieldType.boolean)).before args0 about1 = true := code_word (m := ⟨2, 1⟩) (meth := k2m1) (c := k2c1) (by decide +kernel) rfl rfl rfl (by decide +kernel)
set_option maxRecDepth 65536 in
theorem w_c6 : (Jvm.Cond.code ({ cls := "com/example/graftwork/graftwork/generate/Components", name := "root", desc := "(I)I" } : Jvm.MethodName) prog_24_method_4_code (3 : Nat) (Option.some Jvm.ClassFile.FieldType.int)).before args0 about1 = true := code_word (m := ⟨2, 3⟩) (meth := k2m3) (c := k2c3) (by decide +kernel) rfl rfl rfl (by decide +kernel)
set_option maxRecDepth 65536 in
theorem w_c7 : (Jvm.Cond.code ({ cls := "com/example/graftwork/graftwork/generate/ComponentsJoinPinLaw", name := "refJoin", desc := "([III)Z" } : Jvm.MethodName) method_4_code (5 : Nat) (Option.some Jvm.ClassFile.FieldType.boolean)).before args0 about1 = true := code_word (m := ⟨1, 3⟩) (meth := k1m3) (c := k1c3) (by decide +kernel) rfl rfl rfl (by decide +kernel)
set_option maxRecDepth 65536 in
theorem w_c8 : (Jvm.Cond.code ({ cls := "com/example/graftwork/graftwork/generate/Components", name := "count", desc := "()I" } : Jvm.MethodName) prog_24_method_3_code (1 : Nat) (Option.some Jvm.ClassFile.FieldType.int)).before args0 about1 = true := code_word (m := ⟨2, 2⟩) (meth := k2m2) (c := k2c2) (by decide +kernel) rfl rfl rfl (by decide +kernel)
def codes1 : List Jvm.Cond := [Jvm.Cond.code x code maxLocals ret, Jvm.Cond.code ({ cls := "com/example/graftwork/graftwork/generate/Components", name := "<init>", desc := "(I)V" } : Jvm.MethodName) prog_24_method_1_code (3 : Nat) (Option.none : Option Jvm.ClassFile.FieldType), Jvm.Cond.code ({ cls := "java/lang/Object", name := "<init>", desc := "()V" } : Jvm.MethodName) object_method_1_code (1 : Nat) (Option.none : Option Jvm.ClassFile.FieldType), Jvm.Cond.code ({ cls := "com/example/graftwork/graftwork/generate/ComponentsJoinPinLaw", name := "first", desc := "(II)I" } : Jvm.MethodName) method_2_code (2 : Nat) (Option.some Jvm.ClassFile.FieldType.int), Jvm.Cond.code ({ cls := "com/example/graftwork/graftwork/generate/ComponentsJoinPinLaw", name := "second", desc := "(II)I" } : Jvm.MethodName) method_3_code (2 : Nat) (Option.some Jvm.ClassFile.FieldType.int), Jvm.Cond.code ({ cls := "com/example/graftwork/graftwork/generate/Components", name := "join", desc := "(II)Z" } : Jvm.MethodName) prog_24_method_2_code (5 : Nat) (Option.some Jvm.ClassFile.FieldType.boolean), Jvm.Cond.code ({ cls := "com/example/graftwork/graftwork/generate/Components", name := "root", desc := "(I)I" } : Jvm.MethodName) prog_24_method_4_code (3 : Nat) (Option.some Jvm.ClassFile.FieldType.int), Jvm.Cond.code ({ cls := "com/example/graftwork/graftwork/generate/ComponentsJoinPinLaw", name := "refJoin", desc := "([III)Z" } : Jvm.MethodName) method_4_code (5 : Nat) (Option.some Jvm.ClassFile.FieldType.boolean), Jvm.Cond.code ({ cls := "com/example/graftwork/graftwork/generate/Components", name := "count", desc := "()I" } : Jvm.MethodName) prog_24_method_3_code (1 : Nat) (Option.some Jvm.ClassFile.FieldType.int)]
set_option maxRecDepth 65536 in
theorem codes_eq : words1.filter isCode = codes1 := rfl
theorem w_codes : ∀ c ∈ words1.filter isCode, c.before args0 about1 = true := by
  rw [codes_eq]
  intro c hc
  simp only [codes1, List.mem_cons, List.not_mem_nil, or_false] at hc
  rcases hc with rfl | rfl | rfl | rfl | rfl | rfl | rfl | rfl | rfl
  · exact w_c0
  · exact w_c1
  · exact w_c2
  · exact w_c3
  · exact w_c4
  · exact w_c5
  · exact w_c6
  · exact w_c7
  · exact w_c8
set_option maxRecDepth 65536 in
theorem w_t1 : (words1.take 24).all (fun c => isCode c || c.before args0 about1) = true := by decide +kernel
set_option maxRecDepth 65536 in
theorem w_t2 : (words1.drop 24).all (fun c => isCode c || c.before args0 about1) = true := by decide +kernel
theorem w_tables : (allAtoms (Jvm.Cond.code x code maxLocals ret :: tables_1)).before args0 about1 = true := by
  rw [allAtoms_all]
  show words1.all (fun c => c.before args0 about1) = true
  refine all_split ?_ w_codes
  rw [← List.take_append_drop 24 words1, List.all_append, w_t1, w_t2]
  rfl
set_option maxRecDepth 65536 in
theorem w_case : (Jvm.Cond.and given_1 narrow_1).before args0 about1 = true := by decide +kernel
theorem w_applies : (headSpec (Jvm.Cond.code x code maxLocals ret :: tables_1) room_1).applies x e0.platform about1 = true :=
  (Spec.applies_iff w_frames).mpr ⟨w_running, w_runnable, w_alone, w_named, w_hears, w_ripe, w_room, w_tables⟩
theorem atStart : AtStart classFile x code maxLocals ret World_1 tables_1 room_1 Calls_1 rest_1 Pre_1 launch0 p0 e0 about1 theMethod args0 below0 :=
  ⟨lists_1, trivial, launch0.admits_env _ _ _, launch0.least_env, fairChoices_fair.cas, fairChoices_fair.clock, w_frames, w_args, w_heap, w_applies, trivial, trivial, w_case⟩
end start1
theorem witness_1 : WitnessClaimed_1 := ⟨start1.p0, start1.e0, start1.about1, start1.theMethod, start1.args0, start1.below0, start1.atStart⟩
end Jvm.Pilot.@@N@@
