import JvmDerived
import JvmDerived.Pilot.@@N@@Statement
import JvmDerived.Pilot.@@N@@Code
set_option linter.unusedVariables false
set_option linter.unusedSimpArgs false

namespace Jvm.RoadKit
open Sem ClassFile Op Lib Jvm.Stand Jvm.Free Jvm.LawKit
section New
variable {p : Program} {l : Launch} {e : Env} {R : Room} {s : State} {m : MethodId} {args : Array Value} {below : List Frame} {meth : Method} {c : Code} {T : State} {locs : List Loc} {cells slots : Nat}
theorem retI (X : Stand p l e R s m args below meth c T locs cells slots) (hx : p.tables.exec = Jvm.exec) {pc : Nat} {Ls : Array Slot} {z : Int32} {rest : List Value} (hret : meth.sig.returnType = some .int) (hd : decode c.code pc = .ok (.ireturn, 1)) {fs : List Frame}
    (hl : ∀ (f : JFrame) (acts : List Action), f.method = m → f.locked = none → f.entered = [] → (doReturn e (T.setTop f) acts (some (.int z))).1 = T.setFrames fs) : Steps p.tables e below (T.setTop (mkF m pc Ls (.int z :: rest))) (T.setFrames fs) := by
  have hm' : T.vm.method? m = some meth := X.method'
  have hn : narrow .int (.int z) = .int z := rfl
  show Steps p.tables e below (T.setTop { method := m, pc := pc, locals := Ls, stack := _ :: rest, locked := none }) _
  jvm_step X.here [X.here.top, hx, hd, hm', hret, hn]
  first | (intro acts; rw [hl _ acts rfl rfl rfl]) | rw [hl _ _ rfl rfl rfl]
  exact Steps.refl _
end New
end Jvm.RoadKit

namespace Jvm.Pilot.@@N@@
open Jvm Jvm.ClassFile Sem Op Lib Jvm.Free Jvm.Stand Jvm.LawKit Jvm.RoadKit Bundle Jvm.Pilot.@@N@@.Jvm.D
theorem own_stak {Z : State} {h h' : Heap} {C n d : String} {v : Value} {ws : List Addr} (F : Sta Z h C n d v) (K : Keep h h' ws) (q : ∀ x ∈ ws, ∀ c : Cell, h[x]? = some c → c.vm.isStatics = false) : Sta Z h' C n d v := by
  obtain ⟨cf, i, k, f, st, cell, h1, h2, h3, h4, h5, h6, h7⟩ := F
  refine ⟨cf, i, k, f, st, cell, h1, h2, h3, h4, K.2.1 st cell h5 (fun hm => ?_), h6, h7⟩
  have e := q st hm cell h5
  rw [h6] at e; cases e
theorem own_exns {Z : State} {h : Heap} {a : Addr} {C : String} (E : Exa Z h a C) : ∀ c : Cell, h[a]? = some c → c.vm.isStatics = false := fun c hc => by
  obtain ⟨c', k, e1, -, -, e4, -⟩ := E
  cases hc.symm.trans e1; exact e4
theorem own_arns {Z : State} {h : Heap} {a : Addr} {k : ClassId} {ty : FieldType} {z : Int32} {vs : List Value} {d : Value} (A : Arv Z h a k ty z vs d) : ∀ c : Cell, h[a]? = some c → c.vm.isStatics = false := fun c hc => by
  obtain ⟨c', A', -⟩ := A
  have e := A'.plain
  cases hc.symm.trans A'.1; exact e
section OwnCalls
variable {p : Program} {l : Launch} {e : Env} {R : Room} {s : State} {m : MethodId} {args : Array Value} {below : List Frame} {meth : Method} {c : Code} {T : State} {locs : List Loc} {cells slots : Nat} {Z : State} {a0 : Array Value} {h : Heap}
  {own : String} {index : Nat} {y z : MethodName} {bytes : ByteArray} {maxL : Nat} {ret : Option FieldType} {rm : Room} {W : Nat} {as' : Array Value} {Q : Option Value → Heap → List Loc → Prop}
theorem own_callS (X : Stand p l e R s m args below meth c T locs cells slots) (hx : p.tables.exec = Jvm.exec) (hZ : Z.Warmed39 s.vm) (hown : s.vm.findClass own = some m.cls) (hlink : (Cond.methodLink own index y).before a0 Z = true) (hstat : (Cond.static y).before a0 Z = true) (hinit : (Cond.initialized y.cls).before a0 Z = true)
    (hcode : (Cond.code y bytes maxL ret).before a0 Z = true) (hy : y.cls ≠ "java/lang/invoke/MethodHandle" ∧ y.cls ≠ "java/lang/invoke/VarHandle")
    (hM : MetFree l y (head1 [Cond.code y bytes maxL ret] rm) (fun a U => a = as' ∧ Z.Warmed39 U.vm ∧ U.heap = h) (fun _ _ _ _ _ => True) (fun _ U o U' => ∃ v L, o = .returned v ∧ Q v U'.heap L ∧ FrameEnd U o U' L rm.cells rm.slots))
    (hf : rm.frames + 1 ≤ R.frames) (hl : W + (maxL + 11) + rm.locals ≤ R.locals) {g : JFrame} (hg : g.method = m) (hsize : g.locals.size = c.maxLocals) {argsL rest : List Value} (hlen : ∀ sig, parseMethodDescriptor y.desc = some sig → argsL.length = sig.parameters.length)
    (hstack : g.stack = argsL.reverse ++ rest) (hW : 2 * g.monitorRoom + (rest.map fun v => v.category).sum ≤ W) (hdg : decode c.code g.pc = .ok (.invokestatic index, 3)) (has : argsL.toArray = as') (eT : T.heap = h) (hc : cells + rm.cells ≤ R.cells) (hs : slots + rm.slots ≤ R.slots) :
    ∃ (v : Option Value) (T' : State) (L : List Loc), Stand p l e R s m args below meth c T' (locs ++ L) (cells + rm.cells) (slots + rm.slots) ∧ Q v T'.heap L ∧ ∀ target, Steps p.tables e below (T'.setTop { g with pc := g.pc + 3, stack := v.toList ++ rest }) target → Steps p.tables e below (T.setTop g) target := by
  obtain ⟨v, _, ⟨T3, L3, k3, n3⟩, -, X3, ⟨Lc3, hQ3, l3, y3, z3⟩, st3⟩ := Jvm.LawKit.callS X hx hown (mvT hZ hlink) (mvT hZ hstat) (mvT hZ hinit) (mvT hZ hcode) hy (backOf (W := W) hM hZ hcode hinit hf hl) hg hsize hlen hstack hW hdg (fun _ _ => ⟨has, eT, hc, hs⟩)
  dsimp only [Pt.U, Pt.locs, Pt.cells, Pt.slots] at X3 l3 y3 z3 st3 hQ3
  subst l3 y3 z3
  exact ⟨v, T3, Lc3, X3, hQ3, st3⟩
theorem own_special (X : Stand p l e R s m args below meth c T locs cells slots) (hx : p.tables.exec = Jvm.exec) (hZ : Z.Warmed39 s.vm) (hy1 : y.name = "<init>") (hown : s.vm.findClass own = some m.cls) (hlink : (Cond.methodLink own index y).before a0 Z = true) (hinst : (Cond.instanceMethod y).before a0 Z = true)
    (hcode : (Cond.code y bytes maxL none).before a0 Z = true) (hinit : (Cond.initialized y.cls).before a0 Z = true) (hy : y.cls ≠ "java/lang/invoke/MethodHandle" ∧ y.cls ≠ "java/lang/invoke/VarHandle")
    (hM : MetFree l y (head1 [Cond.code y bytes maxL none] rm) (fun a U => a = as' ∧ Z.Warmed39 U.vm ∧ U.heap = h) (fun _ _ _ _ _ => True) (fun _ U o U' => ∃ v L, o = .returned v ∧ Q v U'.heap L ∧ FrameEnd U o U' L rm.cells rm.slots))
    (hf : rm.frames + 1 ≤ R.frames) (hl : W + (maxL + 11) + rm.locals ≤ R.locals) {g : JFrame} (hg : g.method = m) (hsize : g.locals.size = c.maxLocals) {a : Addr} {argsL rest : List Value} (hlen : ∀ sig, parseMethodDescriptor y.desc = some sig → argsL.length = sig.parameters.length)
    (hstack : g.stack = argsL.reverse ++ .ref a :: rest) (hW : 2 * g.monitorRoom + (rest.map fun v => v.category).sum ≤ W) (hdg : decode c.code g.pc = .ok (.invokespecial index, 3)) (has : (.ref a :: argsL).toArray = as') (eT : T.heap = h) (hc : cells + rm.cells ≤ R.cells) (hs : slots + rm.slots ≤ R.slots) :
    ∃ (v : Option Value) (T' : State) (L : List Loc), Stand p l e R s m args below meth c T' (locs ++ L) (cells + rm.cells) (slots + rm.slots) ∧ Q v T'.heap L ∧ ∀ target, Steps p.tables e below (T'.setTop { g with pc := g.pc + 3, stack := v.toList ++ rest }) target → Steps p.tables e below (T.setTop g) target := by
  obtain ⟨v, _, ⟨T3, L3, k3, n3⟩, -, X3, ⟨Lc3, hQ3, l3, y3, z3⟩, st3⟩ := X.specialBack hx hy1 hown (mvT hZ hlink) (mvT hZ hinst) (mvT hZ hcode) hy (backOf (W := W) hM hZ hcode hinit hf hl) hg hsize (Steps.refl _) hlen hstack hW hdg (fun _ _ => ⟨has, eT, hc, hs⟩)
  dsimp only [Pt.U, Pt.locs, Pt.cells, Pt.slots] at X3 l3 y3 z3 st3 hQ3
  subst l3 y3 z3
  exact ⟨v, T3, Lc3, X3, hQ3, fun target k => st3.trans k⟩
theorem own_virtual (X : Stand p l e R s m args below meth c T locs cells slots) (hx : p.tables.exec = Jvm.exec) (hZ : Z.Warmed39 s.vm) {C : String} (hown : s.vm.findClass own = some m.cls) (hlink : (Cond.methodLink own index y).before a0 Z = true) (hdecl : (Cond.declares y).before a0 Z = true) (hnf : NotFace s y) (hsel : (Cond.selects C y z).before a0 Z = true) (hinst : (Cond.instanceMethod z).before a0 Z = true)
    (hcode : (Cond.code z bytes maxL ret).before a0 Z = true) (hinit : (Cond.initialized z.cls).before a0 Z = true) (hy : y.cls ≠ "java/lang/invoke/MethodHandle" ∧ y.cls ≠ "java/lang/invoke/VarHandle")
    (hM : MetFree l z (head1 [Cond.code z bytes maxL ret] rm) (fun a U => a = as' ∧ Z.Warmed39 U.vm ∧ U.heap = h) (fun _ _ _ _ _ => True) (fun _ U o U' => ∃ v L, o = .returned v ∧ Q v U'.heap L ∧ FrameEnd U o U' L rm.cells rm.slots))
    (hf : rm.frames + 1 ≤ R.frames) (hl : W + (maxL + 11) + rm.locals ≤ R.locals) {a : Addr} (E : Exa Z h a C) {g : JFrame} (hg : g.method = m) (hsize : g.locals.size = c.maxLocals) {argsL rest : List Value} (hlen : ∀ sig, parseMethodDescriptor y.desc = some sig → argsL.length = sig.parameters.length)
    (hstack : g.stack = argsL.reverse ++ .ref a :: rest) (hW : 2 * g.monitorRoom + (rest.map fun v => v.category).sum ≤ W) (hdg : decode c.code g.pc = .ok (.invokevirtual index, 3)) (has : (.ref a :: argsL).toArray = as') (eT : T.heap = h) (hc : cells + rm.cells ≤ R.cells) (hs : slots + rm.slots ≤ R.slots) :
    ∃ (v : Option Value) (T' : State) (L : List Loc), Stand p l e R s m args below meth c T' (locs ++ L) (cells + rm.cells) (slots + rm.slots) ∧ Q v T'.heap L ∧ ∀ target, Steps p.tables e below (T'.setTop { g with pc := g.pc + 3, stack := v.toList ++ rest }) target → Steps p.tables e below (T.setTop g) target := by
  obtain ⟨cq, kq, qa, qb, qc⟩ := isOf hZ eT E
  obtain ⟨v, _, ⟨T3, L3, k3, n3⟩, -, X3, ⟨Lc3, hQ3, l3, y3, z3⟩, st3⟩ := X.virtualBack hx hown (mvT hZ hlink) (mvT hZ hdecl) hnf (mvT hZ hsel) (mvT hZ hinst) hy (backOf (W := W) hM hZ hcode hinit hf hl) qa qc hg hsize (Steps.refl _) hlen hstack hW hdg (fun _ _ => ⟨has, eT, hc, hs⟩)
  dsimp only [Pt.U, Pt.locs, Pt.cells, Pt.slots] at X3 l3 y3 z3 st3 hQ3
  subst l3 y3 z3
  exact ⟨v, T3, Lc3, X3, hQ3, fun target k => st3.trans k⟩
end OwnCalls
abbrev mN0 : MethodName := ⟨"java/lang/StringUTF16", "compress", "([CI[BII)I"⟩
abbrev mN1 : MethodName := ⟨"java/lang/StringUTF16", "compress", "([CII)[B"⟩
abbrev mN2 : MethodName := ⟨"java/lang/StringUTF16", "coderFromArrayLen", "([BI)B"⟩
abbrev mN3 : MethodName := ⟨"java/lang/String", "<init>", "([CIILjava/lang/Void;)V"⟩
abbrev mN4 : MethodName := ⟨"java/lang/String", "<init>", "([C)V"⟩
abbrev mN5 : MethodName := ⟨"com/example/steady_courier/steadycourier/OptionReader", "<init>", "([Ljava/lang/String;)V"⟩
abbrev mN6 : MethodName := ⟨"com/example/steady_courier/steadycourier/OptionReader", "hasNext", "()Z"⟩
abbrev mN7 : MethodName := ⟨"com/example/steady_courier/steadycourier/OptionReader", "option", "()Ljava/lang/String;"⟩
abbrev mN8 : MethodName := ⟨"java/lang/String", "isEmpty", "()Z"⟩
abbrev mN9 : MethodName := ⟨"java/lang/String", "equals", "(Ljava/lang/Object;)Z"⟩
abbrev mN10 : MethodName := ⟨"com/example/steady_courier/steadycourier/OptionReader", "value", "(Ljava/lang/String;)Ljava/lang/String;"⟩

theorem own_wS {Z : State} {av0 : Array Value} (hw : ∀ d ∈ tables_1, d.before av0 Z = true) : ∀ a ∈ Bundle.stringAtoms, a.before av0 Z = true := fun d hd => hw d (List.contains_iff_mem.mp (List.all_eq_true.mp (by decide +kernel : (Bundle.stringAtoms.all fun q => tables_1.contains q) = true) d hd))
theorem own_backI {l : Launch} {R : Room} {p : Program} {e : Env} {below : List Frame} {s : State} {args : Array Value} {Z : State} {a0 : Array Value} {h : Heap} {y : MethodName} {bytes : ByteArray} {maxL : Nat} {ret : Option FieldType} {rm : Room} {len W : Nat} {as' : Array Value} {Q : Option Value → Heap → List Loc → Prop}
    (hM : MetFree l y (head1 [Cond.code y bytes maxL ret] rm) (fun a U => a = as' ∧ Z.Warmed39 U.vm ∧ U.heap = h ∧ IB Z U.vm []) (fun _ _ _ _ _ => True) (fun _ U o U' => ∃ v L, o = .returned v ∧ Q v U'.heap L ∧ ReturnedEndW U o U' L rm.cells rm.slots))
    (hZ : Z.Warmed39 s.vm) (wc : (Cond.code y bytes maxL ret).before a0 Z = true) (wz : (Cond.initialized y.cls).before a0 Z = true) (hf : rm.frames + 1 ≤ R.frames) (hl : W + (maxL + 11) + rm.locals ≤ R.locals) (hI : IB Z s.vm []) :
    BackS l R p e below s args y len W (fun A a => a = as' ∧ A.U.heap = h ∧ A.cells + rm.cells ≤ R.cells ∧ A.slots + rm.slots ≤ R.slots)
      (fun A _ v B => ∃ L, Q v B.U.heap L ∧ B.locs = A.locs ++ L ∧ B.cells = A.cells + rm.cells ∧ B.slots = A.slots + rm.slots) :=
  BackS.of_freeW (bytes := bytes) (maxL := maxL) (ret := ret) (E := fun _ _ o t L k n => k = rm.cells ∧ n = rm.slots ∧ ∃ v, o = .returned v ∧ Q v t.heap L) hM hf hl
    (fun m meth c A a Y hp => have hU : Z.Warmed39 A.U.vm := wtrans hZ Y.warmed
      ⟨by show (Cond.and _ .tt).before a A.U = true; rw [Cond.before_and, mv hU wc]; rfl, mv hU wc, mv hU wz, hp.2.2.1, hp.2.2.2⟩)
    (fun m meth c A a g mk Y hp => ⟨hp.1, wtrans hZ Y.warmed, hp.2.1, by
      obtain ⟨more, e1, e2⟩ := hI
      exact ⟨more, Y.warmed.interned_eq.trans e1, e2⟩⟩) (fun _ _ _ _ _ _ _ _ _ => trivial)
    (fun _ _ _ _ ⟨v, L, h1, h2, h3⟩ => ⟨L, _, _, h3, rfl, rfl, v, h1, h2⟩)
    (fun m meth c A a g mk v t L k n Y hp _ _ ⟨e1, e2, v', e3, e4⟩ => by cases e3; subst e1 e2; exact ⟨L, e4, rfl, rfl, rfl⟩)
theorem own_specialI {p : Program} {l : Launch} {e : Env} {R : Room} {s : State} {m : MethodId} {args : Array Value} {below : List Frame} {meth : Method} {c : Code} {T : State} {locs : List Loc} {cells slots : Nat} {Z : State} {a0 : Array Value} {h : Heap}
    {own : String} {index : Nat} {y : MethodName} {bytes : ByteArray} {maxL : Nat} {rm : Room} {W : Nat} {as' : Array Value} {Q : Option Value → Heap → List Loc → Prop}
    (X : Stand p l e R s m args below meth c T locs cells slots) (hx : p.tables.exec = Jvm.exec) (hZ : Z.Warmed39 s.vm) (hy1 : y.name = "<init>") (hown : s.vm.findClass own = some m.cls) (hlink : (Cond.methodLink own index y).before a0 Z = true) (hinst : (Cond.instanceMethod y).before a0 Z = true)
    (hcode : (Cond.code y bytes maxL none).before a0 Z = true) (hinit : (Cond.initialized y.cls).before a0 Z = true) (hy : y.cls ≠ "java/lang/invoke/MethodHandle" ∧ y.cls ≠ "java/lang/invoke/VarHandle")
    (hM : MetFree l y (head1 [Cond.code y bytes maxL none] rm) (fun a U => a = as' ∧ Z.Warmed39 U.vm ∧ U.heap = h ∧ IB Z U.vm []) (fun _ _ _ _ _ => True) (fun _ U o U' => ∃ v L, o = .returned v ∧ Q v U'.heap L ∧ ReturnedEndW U o U' L rm.cells rm.slots))
    (hf : rm.frames + 1 ≤ R.frames) (hl : W + (maxL + 11) + rm.locals ≤ R.locals) (hI : IB Z s.vm []) {g : JFrame} (hg : g.method = m) (hsize : g.locals.size = c.maxLocals) {a : Addr} {argsL rest : List Value} (hlen : ∀ sig, parseMethodDescriptor y.desc = some sig → argsL.length = sig.parameters.length)
    (hstack : g.stack = argsL.reverse ++ .ref a :: rest) (hW : 2 * g.monitorRoom + (rest.map fun v => v.category).sum ≤ W) (hdg : decode c.code g.pc = .ok (.invokespecial index, 3)) (has : (.ref a :: argsL).toArray = as') (eT : T.heap = h) (hc : cells + rm.cells ≤ R.cells) (hs : slots + rm.slots ≤ R.slots) :
    ∃ (v : Option Value) (T' : State) (L : List Loc), Stand p l e R (s.setVm T'.vm) m args below meth c T' (locs ++ L) (cells + rm.cells) (slots + rm.slots) ∧ s.Since T'.vm T'.heap.size ∧ Q v T'.heap L ∧ ∀ target, Steps p.tables e below (T'.setTop { g with pc := g.pc + 3, stack := v.toList ++ rest }) target → Steps p.tables e below (T.setTop g) target := by
  obtain ⟨v, _, ⟨T3, L3, k3, n3⟩, -, X3, hS3, hgr3, ⟨Lc3, hQ3, l3, y3, z3⟩, st3⟩ := X.specialBackS hx hy1 hown (mvT hZ hlink) (mvT hZ hinst) (mvT hZ hcode) hy (own_backI (W := W) hM hZ hcode hinit hf hl hI) hg hsize (Steps.refl _) hlen hstack hW hdg (fun _ _ => ⟨has, eT, hc, hs⟩)
  dsimp only [Pt.U, Pt.locs, Pt.cells, Pt.slots] at X3 l3 y3 z3 st3 hQ3 hS3
  subst l3 y3 z3
  exact ⟨v, T3, Lc3, X3, hS3, hQ3, fun target k => st3.trans k⟩
def own_lt (a b : Int32) : Int32 := if a < b then 1 else 0
theorem own_ch (x : Int32) : ¬ (255 : Int32) < nar .char (x &&& 255).toUInt32.toUInt16.toUInt32.toInt32 := by
  have e : nar .char (x &&& 255).toUInt32.toUInt16.toUInt32.toInt32 = (x &&& 255).toUInt32.toUInt16.toUInt32.toInt32.toUInt32.toUInt16.toUInt32.toInt32 := rfl
  rw [e]
  have h := c_i2c (x &&& 255).toUInt32.toUInt16.toUInt32.toInt32
  have h1 := c_i2c (x &&& 255)
  have h2 : (x &&& 255).toInt = x.toInt % (2 ^ 8 : Nat) := c_mask x 255 8 (by decide) (by decide)
  rw [Int32.lt_iff_toInt_lt, show (255 : Int32).toInt = 255 from rfl]
  omega
def own_P (p k : Int32) : Int32 := (p &&& 2147483647) - ((p &&& 2147483647) / k) * k
theorem own_Pv (p k : Int32) (hk : 0 < k.toInt) : (own_P p k).toInt = (p &&& 2147483647).toInt % k.toInt := by
  unfold own_P
  rw [irem_eq_mod]
  have h := c_mask p 2147483647 31 (by decide) (by decide)
  exact (c_irem _ k _ rfl).1 (by rw [h]; omega)
theorem own_P3 (p : Int32) : own_P p 3 = 0 ∨ own_P p 3 = 1 ∨ own_P p 3 = 2 := by
  simp only [← Int32.toInt_inj, own_Pv p 3 (by decide), show (0 : Int32).toInt = 0 from rfl, show (1 : Int32).toInt = 1 from rfl, show (2 : Int32).toInt = 2 from rfl, show (3 : Int32).toInt = 3 from rfl]
  omega
theorem d5_0 : decode jdk_52_method_21_code 0 = .ok (.iconst 0, 1) := by decide +kernel
theorem d5_1 : decode jdk_52_method_21_code 1 = .ok (.istore 5, 2) := by decide +kernel
theorem d5_3 : decode jdk_52_method_21_code 3 = .ok (.iload 5, 2) := by decide +kernel
theorem d5_5 : decode jdk_52_method_21_code 5 = .ok (.iload 4, 2) := by decide +kernel
theorem d5_7 : decode jdk_52_method_21_code 7 = .ok (.if_icmp .ge 37, 3) := by decide +kernel
theorem d5_10 : decode jdk_52_method_21_code 10 = .ok (.aload_n 0, 1) := by decide +kernel
theorem d5_11 : decode jdk_52_method_21_code 11 = .ok (.iload_n 1, 1) := by decide +kernel
theorem d5_12 : decode jdk_52_method_21_code 12 = .ok (.caload, 1) := by decide +kernel
theorem d5_13 : decode jdk_52_method_21_code 13 = .ok (.istore 6, 2) := by decide +kernel
theorem d5_15 : decode jdk_52_method_21_code 15 = .ok (.iload 6, 2) := by decide +kernel
theorem d5_17 : decode jdk_52_method_21_code 17 = .ok (.sipush 255, 3) := by decide +kernel
theorem d5_20 : decode jdk_52_method_21_code 20 = .ok (.if_icmp .le 6, 3) := by decide +kernel
theorem d5_26 : decode jdk_52_method_21_code 26 = .ok (.aload_n 2, 1) := by decide +kernel
theorem d5_27 : decode jdk_52_method_21_code 27 = .ok (.iload_n 3, 1) := by decide +kernel
theorem d5_28 : decode jdk_52_method_21_code 28 = .ok (.iload 6, 2) := by decide +kernel
theorem d5_30 : decode jdk_52_method_21_code 30 = .ok (.i2b, 1) := by decide +kernel
theorem d5_31 : decode jdk_52_method_21_code 31 = .ok (.bastore, 1) := by decide +kernel
theorem d5_32 : decode jdk_52_method_21_code 32 = .ok (.iinc 1 1, 3) := by decide +kernel
theorem d5_35 : decode jdk_52_method_21_code 35 = .ok (.iinc 3 1, 3) := by decide +kernel
theorem d5_38 : decode jdk_52_method_21_code 38 = .ok (.iinc 5 1, 3) := by decide +kernel
theorem d5_41 : decode jdk_52_method_21_code 41 = .ok (.goto (-38), 3) := by decide +kernel
theorem d5_44 : decode jdk_52_method_21_code 44 = .ok (.iload 4, 2) := by decide +kernel
theorem d5_46 : decode jdk_52_method_21_code 46 = .ok (.ireturn, 1) := by decide +kernel
theorem pn_StringUTF16 : plainName "java/lang/StringUTF16" = true := by first | (simp [plainName, overriddenIn]; done) | decide +kernel
def QrmCp5_2 (Z : State) (a0 : Addr) (a2 : Addr) (ka : ClassId) (kb : ClassId) (c0 : Int32) (c1 : Int32) (h0 : Heap) (n0 : Nat) (v : Option Value) (h : Heap) (L : List Loc) : Prop := v = some (.int (2 : Int32)) ∧ Fr n0 L ∧ Keep h0 h [a2] ∧ Arv Z h a2 kb .byte (2 : Int32) [(.int (nar .byte (c0).toInt8.toInt32)), (.int (nar .byte (c1).toInt8.toInt32))] (.int (0 : Int32))
set_option maxRecDepth 65536 in
set_option maxHeartbeats 40000000 in
theorem rmCp5_2 (l : Launch) (Z : State) (av0 : Array Value) (hw : ∀ d ∈ tables_1, d.before av0 Z = true) (ws : List Jvm.Cond) (a0 : Addr) (a2 : Addr) (ka : ClassId) (kb : ClassId) (c0 : Int32) (c1 : Int32) (h0 : Heap) (n0 : Nat) (Z0 : n0 ≤ h0.size) (hA : Arv Z h0 a0 ka .char (2 : Int32) [(.int c0), (.int c1)] (.int (0 : Int32))) (hB : Arv Z h0 a2 kb .byte (2 : Int32) [(.int (0 : Int32)), (.int (0 : Int32))] (.int (0 : Int32))) (hne : a0 ≠ a2) (hge : n0 ≤ a2) (hc0 : ¬ (255 : Int32) < c0) (hc1 : ¬ (255 : Int32) < c1) :
    MetFree l mN0 (head1 (Jvm.Cond.code mN0 jdk_52_method_21_code 7 (some .int) :: ws) ({ frames := 0, cells := 0, slots := 0, locals := 0 } : Room)) (fun aU U => aU = #[(.ref a0), (.int (0 : Int32)), (.ref a2), (.int (0 : Int32)), (.int (2 : Int32))] ∧ Z.Warmed39 U.vm ∧ U.heap = h0) (fun _ _ _ _ _ => True) (fun _ U oU U' => ∃ vU LU, oU = .returned vU ∧ QrmCp5_2 Z a0 a2 ka kb c0 c1 h0 n0 vU U'.heap LU ∧ FrameEnd U oU U' LU ({ frames := 0, cells := 0, slots := 0, locals := 0 } : Room).cells ({ frames := 0, cells := 0, slots := 0, locals := 0 } : Room).slots) := by
  refine MetFree.of_bodySF (plainFor_of_name pn_StringUTF16) hisR ?_
  intro p e s m args below meth c s₁ Bd hml0 hP hK
  obtain ⟨rfl, hZ, hh⟩ := hP
  have hx := Bd.exec
  have hby := Bd.bytes
  have hml : c.maxLocals = 7 := hml0
  have hown : s.vm.findClass "java/lang/StringUTF16" = some m.cls := findClass_of_methodNamed Bd.named
  have hnm := (name_of_methodNamed Bd.named Bd.method).1
  have X0 : Stand p l e ({ frames := 0, cells := 0, slots := 0, locals := 0 } : Room) s m #[(.ref a0), (.int (0 : Int32)), (.ref a2), (.int (0 : Int32)), (.int (2 : Int32))] below meth c s₁ [] 0 0 := Stand.of_body Bd
  have e0 : s₁.heap = h0 := by rw [← hh, Bd.state]; rfl
  have N0 := Fr.nil n0
  have pre0 : ∀ t, Steps p.tables e below (s₁.setTop (mkF m 0 #[rv a0, iv (0 : Int32), rv a2, iv (0 : Int32), iv (2 : Int32), .unset, .unset] [])) t → Steps p.tables e below (s₁.setTop (entryFrame m #[(.ref a0), (.int (0 : Int32)), (.ref a2), (.int (0 : Int32)), (.int (2 : Int32))] 7)) t := fun t k => castTop (by first | (simp [entryFrame, mkF, argsToLocals, Value.category]; done) | rfl) k
  obtain ⟨cl1, Ar1, qk1, Sz1, Ng1, Hs1, Gs1⟩ := id hA
  have hin1 : ¬ ((0 : Int32) < 0 ∨ cl1.slots.size ≤ ((0 : Int32)).toNatClampNeg) := inb_of Sz1 ⟨by decide, by decide⟩
  have hat1 : cl1.slots[((0 : Int32)).toNatClampNeg]? = some (.int c0) := Hs1.at hin1 rfl
  obtain ⟨cl2, Ar2, qk2, Sz2, Ng2, Hs2, Gs2⟩ := id hB
  have hin2 : ¬ ((0 : Int32) < 0 ∨ cl2.slots.size ≤ ((0 : Int32)).toNatClampNeg) := inb_of Sz2 ⟨by decide, by decide⟩
  obtain ⟨T3, h3, X3, e3, W3, st3⟩ := stB X0 hx hZ e0 Ar2 (j := (0 : Int32)) hin2 (g := (mkF m 31 #[rv a0, iv (0 : Int32), rv a2, iv (0 : Int32), iv (2 : Int32), iv (0 : Int32), iv c0] [(.int (c0).toInt8.toInt32), (.int (0 : Int32)), (.ref a2)])) rfl rfl (hb hby d5_31)
  have N3 := Fr.snoc X3 N0 hge
  have Z3 : n0 ≤ h3.size := Nat.le_trans Z0 (Nat.le_of_eq W3.size.symm)
  have K3 : Keep h0 h3 [a2] := (Keep.refl h0 [a2]).wr W3 (Or.inl (List.mem_of_getElem? (i := 0) rfl))
  have V3 : Arv Z h3 a2 kb .byte (2 : Int32) [(.int (nar .byte (c0).toInt8.toInt32)), (.int (0 : Int32))] (.int (0 : Int32)) := Arv.set Ar2 qk2 Sz2 Ng2 Hs2 Gs2 (fits_nar_byte _) W3 0 rfl (Nat.le_of_ble_eq_true rfl)
  have f4 := (hA.other W3 hne)
  obtain ⟨cl5, Ar5, qk5, Sz5, Ng5, Hs5, Gs5⟩ := id f4
  have hin5 : ¬ (((0 : Int32) + (1 : Int32)) < 0 ∨ cl5.slots.size ≤ (((0 : Int32) + (1 : Int32))).toNatClampNeg) := inb_of Sz5 ⟨by decide, by decide⟩
  have hat5 : cl5.slots[(((0 : Int32) + (1 : Int32))).toNatClampNeg]? = some (.int c1) := Hs5.at hin5 rfl
  obtain ⟨cl6, Ar6, qk6, Sz6, Ng6, Hs6, Gs6⟩ := id V3
  have hin6 : ¬ (((0 : Int32) + (1 : Int32)) < 0 ∨ cl6.slots.size ≤ (((0 : Int32) + (1 : Int32))).toNatClampNeg) := inb_of Sz6 ⟨by decide, by decide⟩
  obtain ⟨T7, h7, X7, e7, W7, st7⟩ := stB X3 hx hZ e3 Ar6 (j := ((0 : Int32) + (1 : Int32))) hin6 (g := (mkF m 31 #[rv a0, iv (((0 : Int32) + (1 : Int32))), rv a2, iv (((0 : Int32) + (1 : Int32))), iv (2 : Int32), iv (((0 : Int32) + (1 : Int32))), iv c1] [(.int (c1).toInt8.toInt32), (.int ((0 : Int32) + (1 : Int32))), (.ref a2)])) rfl rfl (hb hby d5_31)
  have N7 := Fr.snoc X7 N3 hge
  have Z7 : n0 ≤ h7.size := Nat.le_trans Z3 (Nat.le_of_eq W7.size.symm)
  have K7 : Keep h0 h7 [a2] := K3.wr W7 (Or.inl (List.mem_of_getElem? (i := 0) rfl))
  have V7 : Arv Z h7 a2 kb .byte (2 : Int32) [(.int (nar .byte (c0).toInt8.toInt32)), (.int (nar .byte (c1).toInt8.toInt32))] (.int (0 : Int32)) := Arv.set Ar6 qk6 Sz6 Ng6 Hs6 Gs6 (fits_nar_byte _) W7 1 rfl (Nat.le_of_ble_eq_true rfl)
  have S8 : ∀ t, Steps p.tables e below (T7.setTop (mkF m 46 #[rv a0, iv ((((0 : Int32) + (1 : Int32)) + (1 : Int32))), rv a2, iv ((((0 : Int32) + (1 : Int32)) + (1 : Int32))), iv (2 : Int32), iv ((((0 : Int32) + (1 : Int32)) + (1 : Int32))), iv c1] [(.int (2 : Int32))])) t → Steps p.tables e below (s₁.setTop (mkF m 0 #[rv a0, iv (0 : Int32), rv a2, iv (0 : Int32), iv (2 : Int32), .unset, .unset] [])) t := fun t k => id (by
    show Steps p.tables e below (s₁.setTop (mkF m 0 #[rv a0, iv (0 : Int32), rv a2, iv (0 : Int32), iv (2 : Int32), .unset, .unset] [])) _
    refine XT.iconstV X0.here hx rfl (0 : Int32) (hb hby d5_0) (by decide) ?_
    refine XS.istore X0.here hx rfl (hb hby d5_1) rfl (l' := #[rv a0, iv (0 : Int32), rv a2, iv (0 : Int32), iv (2 : Int32), iv (0 : Int32), .unset]) rfl ?_
    refine XS.iload X0.here hx rfl (hb hby d5_3) rfl ?_
    refine XS.iload X0.here hx rfl (hb hby d5_5) rfl ?_
    refine XS.icmpNo X0.here hx rfl (hb hby d5_7) rfl (XT.ii_ge_f (by decide)) ?_
    refine XS.aloadN X0.here hx rfl (hb hby d5_10) rfl rfl ?_
    show Steps p.tables e below (s₁.setTop (mkF m 11 #[rv a0, iv (0 : Int32), rv a2, iv (0 : Int32), iv (2 : Int32), iv (0 : Int32), .unset] [(.ref a0)])) _
    refine XS.iloadN X0.here hx rfl (hb hby d5_11) rfl ?_
    refine X0.caload hx (j := (0 : Int32)) (v := (.int c0)) (by rw [e0]; exact Ar1.1) (State.isArrayOf_alike hZ.alike Ar1.2.1) Ar1.2.2 hin1 hat1 (g := (mkF m 12 #[rv a0, iv (0 : Int32), rv a2, iv (0 : Int32), iv (2 : Int32), iv (0 : Int32), .unset] [(.int (0 : Int32)), (.ref a0)])) rfl rfl (hb hby d5_12) _ ?_
    refine XS.istore X0.here hx rfl (hb hby d5_13) rfl (l' := #[rv a0, iv (0 : Int32), rv a2, iv (0 : Int32), iv (2 : Int32), iv (0 : Int32), iv c0]) rfl ?_
    refine XS.iload X0.here hx rfl (hb hby d5_15) rfl ?_
    refine XT.sipushV X0.here hx rfl (255 : Int32) (hb hby d5_17) (by decide) ?_
    refine XS.icmpYes X0.here hx rfl (pc0 := 20) (pc' := 26) rfl (hb hby d5_20) rfl (XT.ii_le_t hc0) (by decide) (by decide) ?_
    show Steps p.tables e below (s₁.setTop (mkF m 26 #[rv a0, iv (0 : Int32), rv a2, iv (0 : Int32), iv (2 : Int32), iv (0 : Int32), iv c0] [])) _
    refine XS.aloadN X0.here hx rfl (hb hby d5_26) rfl rfl ?_
    refine XS.iloadN X0.here hx rfl (hb hby d5_27) rfl ?_
    refine XS.iload X0.here hx rfl (hb hby d5_28) rfl ?_
    refine XT.i2b X0.here hx rfl (hb hby d5_30) rfl ?_
    refine st3 _ ?_
    refine XT.iincV X3.here hx rfl (1 : Int32) (hb hby d5_32) (by decide) rfl (l' := #[rv a0, iv (((0 : Int32) + (1 : Int32))), rv a2, iv (0 : Int32), iv (2 : Int32), iv (0 : Int32), iv c0]) rfl ?_
    show Steps p.tables e below (T3.setTop (mkF m 35 #[rv a0, iv (((0 : Int32) + (1 : Int32))), rv a2, iv (0 : Int32), iv (2 : Int32), iv (0 : Int32), iv c0] [])) _
    refine XT.iincV X3.here hx rfl (1 : Int32) (hb hby d5_35) (by decide) rfl (l' := #[rv a0, iv (((0 : Int32) + (1 : Int32))), rv a2, iv (((0 : Int32) + (1 : Int32))), iv (2 : Int32), iv (0 : Int32), iv c0]) rfl ?_
    refine XT.iincV X3.here hx rfl (1 : Int32) (hb hby d5_38) (by decide) rfl (l' := #[rv a0, iv (((0 : Int32) + (1 : Int32))), rv a2, iv (((0 : Int32) + (1 : Int32))), iv (2 : Int32), iv (((0 : Int32) + (1 : Int32))), iv c0]) rfl ?_
    refine XS.goto X3.here hx rfl (pc0 := 41) (pc' := 3) rfl (hb hby d5_41) (by decide) (by decide) ?_
    refine XS.iload X3.here hx rfl (hb hby d5_3) rfl ?_
    refine XS.iload X3.here hx rfl (hb hby d5_5) rfl ?_
    refine XS.icmpNo X3.here hx rfl (hb hby d5_7) rfl (XT.ii_ge_f (by decide)) ?_
    show Steps p.tables e below (T3.setTop (mkF m 10 #[rv a0, iv (((0 : Int32) + (1 : Int32))), rv a2, iv (((0 : Int32) + (1 : Int32))), iv (2 : Int32), iv (((0 : Int32) + (1 : Int32))), iv c0] [])) _
    refine XS.aloadN X3.here hx rfl (hb hby d5_10) rfl rfl ?_
    refine XS.iloadN X3.here hx rfl (hb hby d5_11) rfl ?_
    refine X3.caload hx (j := ((0 : Int32) + (1 : Int32))) (v := (.int c1)) (by rw [e3]; exact Ar5.1) (State.isArrayOf_alike hZ.alike Ar5.2.1) Ar5.2.2 hin5 hat5 (g := (mkF m 12 #[rv a0, iv (((0 : Int32) + (1 : Int32))), rv a2, iv (((0 : Int32) + (1 : Int32))), iv (2 : Int32), iv (((0 : Int32) + (1 : Int32))), iv c0] [(.int ((0 : Int32) + (1 : Int32))), (.ref a0)])) rfl rfl (hb hby d5_12) _ ?_
    refine XS.istore X3.here hx rfl (hb hby d5_13) rfl (l' := #[rv a0, iv (((0 : Int32) + (1 : Int32))), rv a2, iv (((0 : Int32) + (1 : Int32))), iv (2 : Int32), iv (((0 : Int32) + (1 : Int32))), iv c1]) rfl ?_
    refine XS.iload X3.here hx rfl (hb hby d5_15) rfl ?_
    refine XT.sipushV X3.here hx rfl (255 : Int32) (hb hby d5_17) (by decide) ?_
    show Steps p.tables e below (T3.setTop (mkF m 20 #[rv a0, iv (((0 : Int32) + (1 : Int32))), rv a2, iv (((0 : Int32) + (1 : Int32))), iv (2 : Int32), iv (((0 : Int32) + (1 : Int32))), iv c1] [(.int (255 : Int32)), (.int c1)])) _
    refine XS.icmpYes X3.here hx rfl (pc0 := 20) (pc' := 26) rfl (hb hby d5_20) rfl (XT.ii_le_t hc1) (by decide) (by decide) ?_
    refine XS.aloadN X3.here hx rfl (hb hby d5_26) rfl rfl ?_
    refine XS.iloadN X3.here hx rfl (hb hby d5_27) rfl ?_
    refine XS.iload X3.here hx rfl (hb hby d5_28) rfl ?_
    refine XT.i2b X3.here hx rfl (hb hby d5_30) rfl ?_
    refine st7 _ ?_
    show Steps p.tables e below (T7.setTop (mkF m 32 #[rv a0, iv (((0 : Int32) + (1 : Int32))), rv a2, iv (((0 : Int32) + (1 : Int32))), iv (2 : Int32), iv (((0 : Int32) + (1 : Int32))), iv c1] [])) _
    refine XT.iincV X7.here hx rfl (1 : Int32) (hb hby d5_32) (by decide) rfl (l' := #[rv a0, iv ((((0 : Int32) + (1 : Int32)) + (1 : Int32))), rv a2, iv (((0 : Int32) + (1 : Int32))), iv (2 : Int32), iv (((0 : Int32) + (1 : Int32))), iv c1]) rfl ?_
    refine XT.iincV X7.here hx rfl (1 : Int32) (hb hby d5_35) (by decide) rfl (l' := #[rv a0, iv ((((0 : Int32) + (1 : Int32)) + (1 : Int32))), rv a2, iv ((((0 : Int32) + (1 : Int32)) + (1 : Int32))), iv (2 : Int32), iv (((0 : Int32) + (1 : Int32))), iv c1]) rfl ?_
    refine XT.iincV X7.here hx rfl (1 : Int32) (hb hby d5_38) (by decide) rfl (l' := #[rv a0, iv ((((0 : Int32) + (1 : Int32)) + (1 : Int32))), rv a2, iv ((((0 : Int32) + (1 : Int32)) + (1 : Int32))), iv (2 : Int32), iv ((((0 : Int32) + (1 : Int32)) + (1 : Int32))), iv c1]) rfl ?_
    refine XS.goto X7.here hx rfl (pc0 := 41) (pc' := 3) rfl (hb hby d5_41) (by decide) (by decide) ?_
    refine XS.iload X7.here hx rfl (hb hby d5_3) rfl ?_
    refine XS.iload X7.here hx rfl (hb hby d5_5) rfl ?_
    show Steps p.tables e below (T7.setTop (mkF m 7 #[rv a0, iv ((((0 : Int32) + (1 : Int32)) + (1 : Int32))), rv a2, iv ((((0 : Int32) + (1 : Int32)) + (1 : Int32))), iv (2 : Int32), iv ((((0 : Int32) + (1 : Int32)) + (1 : Int32))), iv c1] [(.int (2 : Int32)), (.int (((0 : Int32) + (1 : Int32)) + (1 : Int32)))])) _
    refine XS.icmpYes X7.here hx rfl (pc0 := 7) (pc' := 44) rfl (hb hby d5_7) rfl (XT.ii_ge_t (by decide)) (by decide) (by decide) ?_
    refine XS.iload X7.here hx rfl (hb hby d5_44) rfl ?_
    exact k)
  obtain ⟨fs, hr, hrun, hended, hW, hsame⟩ := X7.leave (v := some (.int (2 : Int32))) (fun h => by rw [Bd.returns] at h; cases h)
  refine ⟨_, _, pre0 _ (S8 _ ?_), hrun, hended, _, _, rfl, ?_, ⟨_, rfl⟩, hW, hsame.mono (by decide) (by decide)⟩
  · exact retI X7 hx Bd.returns (hb hby d5_46) hr
  · show QrmCp5_2 Z a0 a2 ka kb c0 c1 h0 n0 _ T7.heap _
    rw [e7]
    exact ⟨rfl, N7, K7, V7⟩
theorem d4_0 : decode jdk_52_method_16_code 0 = .ok (.iload_n 2, 1) := by decide +kernel
theorem d4_1 : decode jdk_52_method_16_code 1 = .ok (.newarray .byte, 2) := by decide +kernel
theorem d4_3 : decode jdk_52_method_16_code 3 = .ok (.astore_n 3, 1) := by decide +kernel
theorem d4_4 : decode jdk_52_method_16_code 4 = .ok (.aload_n 0, 1) := by decide +kernel
theorem d4_5 : decode jdk_52_method_16_code 5 = .ok (.iload_n 1, 1) := by decide +kernel
theorem d4_6 : decode jdk_52_method_16_code 6 = .ok (.aload_n 3, 1) := by decide +kernel
theorem d4_7 : decode jdk_52_method_16_code 7 = .ok (.iconst 0, 1) := by decide +kernel
theorem d4_8 : decode jdk_52_method_16_code 8 = .ok (.iload_n 2, 1) := by decide +kernel
theorem d4_9 : decode jdk_52_method_16_code 9 = .ok (.invokestatic 115, 3) := by decide +kernel
theorem d4_12 : decode jdk_52_method_16_code 12 = .ok (.istore 4, 2) := by decide +kernel
theorem d4_14 : decode jdk_52_method_16_code 14 = .ok (.iload 4, 2) := by decide +kernel
theorem d4_16 : decode jdk_52_method_16_code 16 = .ok (.iload_n 2, 1) := by decide +kernel
theorem d4_17 : decode jdk_52_method_16_code 17 = .ok (.if_icmp .eq 40, 3) := by decide +kernel
theorem d4_57 : decode jdk_52_method_16_code 57 = .ok (.aload_n 3, 1) := by decide +kernel
theorem d4_58 : decode jdk_52_method_16_code 58 = .ok (.areturn, 1) := by decide +kernel
theorem pd__CI_BII_I : parseMethodDescriptor "([CI[BII)I" = some ⟨[(.array .char), .int, (.array .byte), .int, .int], some .int⟩ := by decide +kernel
def QrmCp3_2 (Z : State) (a0 : Addr) (ka : ClassId) (c0 : Int32) (c1 : Int32) (h0 : Heap) (n0 : Nat) (v : Option Value) (h : Heap) (L : List Loc) : Prop := ∃ (b : Addr) (k : ClassId), v = some (.ref b) ∧ Fr n0 L ∧ h0.size ≤ b ∧ Keep h0 h [] ∧ Arv Z h b k .byte (2 : Int32) [(.int (nar .byte (c0).toInt8.toInt32)), (.int (nar .byte (c1).toInt8.toInt32))] (.int (0 : Int32))
set_option maxRecDepth 65536 in
set_option maxHeartbeats 40000000 in
theorem rmCp3_2 (l : Launch) (Z : State) (av0 : Array Value) (hw : ∀ d ∈ tables_1, d.before av0 Z = true) (ws : List Jvm.Cond) (a0 : Addr) (ka : ClassId) (c0 : Int32) (c1 : Int32) (h0 : Heap) (n0 : Nat) (Z0 : n0 ≤ h0.size) (hA : Arv Z h0 a0 ka .char (2 : Int32) [(.int c0), (.int c1)] (.int (0 : Int32))) (hc0 : ¬ (255 : Int32) < c0) (hc1 : ¬ (255 : Int32) < c1) :
    MetFree l mN1 (head1 (Jvm.Cond.code mN1 jdk_52_method_16_code 6 (some (.array .byte)) :: ws) ({ frames := 1, cells := 1, slots := 2, locals := 18 } : Room)) (fun aU U => aU = #[(.ref a0), (.int (0 : Int32)), (.int (2 : Int32))] ∧ Z.Warmed39 U.vm ∧ U.heap = h0) (fun _ _ _ _ _ => True) (fun _ U oU U' => ∃ vU LU, oU = .returned vU ∧ QrmCp3_2 Z a0 ka c0 c1 h0 n0 vU U'.heap LU ∧ FrameEnd U oU U' LU ({ frames := 1, cells := 1, slots := 2, locals := 18 } : Room).cells ({ frames := 1, cells := 1, slots := 2, locals := 18 } : Room).slots) := by
  refine MetFree.of_bodySF (plainFor_of_name pn_StringUTF16) hisR ?_
  intro p e s m args below meth c s₁ Bd hml0 hP hK
  obtain ⟨rfl, hZ, hh⟩ := hP
  have hx := Bd.exec
  have hby := Bd.bytes
  have hml : c.maxLocals = 6 := hml0
  have hown : s.vm.findClass "java/lang/StringUTF16" = some m.cls := findClass_of_methodNamed Bd.named
  have hnm := (name_of_methodNamed Bd.named Bd.method).1
  have X0 : Stand p l e ({ frames := 1, cells := 1, slots := 2, locals := 18 } : Room) s m #[(.ref a0), (.int (0 : Int32)), (.int (2 : Int32))] below meth c s₁ [] 0 0 := Stand.of_body Bd
  have e0 : s₁.heap = h0 := by rw [← hh, Bd.state]; rfl
  have N0 := Fr.nil n0
  have pre0 : ∀ t, Steps p.tables e below (s₁.setTop (mkF m 0 #[rv a0, iv (0 : Int32), iv (2 : Int32), .unset, .unset, .unset] [])) t → Steps p.tables e below (s₁.setTop (entryFrame m #[(.ref a0), (.int (0 : Int32)), (.int (2 : Int32))] 6)) t := fun t k => castTop (by first | (simp [entryFrame, mkF, argsToLocals, Value.category]; done) | rfl) k
  obtain ⟨T1, h1, k1, X1, e1, E1, A1, st1⟩ := newP X0 hx hZ (hw _ (List.mem_of_getElem? (i := 20) rfl)) e0 (g := (mkF m 1 #[rv a0, iv (0 : Int32), iv (2 : Int32), .unset, .unset, .unset] [(.int (2 : Int32))])) rfl (hb hby d4_1) rfl (by decide) (cap := 2) (by decide) (by decide) (by decide) (by decide)
  obtain ⟨b1, g1⟩ : ∃ z, z = h0.size := ⟨_, rfl⟩
  rw [← g1] at A1 st1
  have ne_a0_b1 : a0 ≠ b1 := Nat.ne_of_lt (Nat.lt_of_lt_of_le hA.lt (Nat.le_of_eq g1.symm))
  have ge_b1 : n0 ≤ b1 := Nat.le_trans Z0 (Nat.le_of_eq g1.symm)
  have sz_b1 : h0.size ≤ b1 := Nat.le_of_eq g1.symm
  have Z1 : n0 ≤ h1.size := Nat.le_trans Z0 E1.1
  have K1 : Keep h0 h1 [] := (Keep.refl h0 []).ext E1
  have V1 : Arv Z h1 b1 k1 .byte (2 : Int32) [(.int (0 : Int32)), (.int (0 : Int32))] (.int (0 : Int32)) := (Arv.new A1 (by decide)).pad (pad_rep [] (.int (0 : Int32)) 2)
  have f2 := (hA.ext E1)
  obtain ⟨_, T3, Lc3, X3, hQ3, st3⟩ := own_callS (W := 0) (y := mN0) X1 hx hZ hown (hw _ (List.mem_of_getElem? (i := 21) rfl)) (hw _ (List.mem_of_getElem? (i := 22) rfl)) (hw _ (List.mem_of_getElem? (i := 18) rfl)) (hw _ (List.mem_of_getElem? (i := 23) rfl)) (by decide) (rmCp5_2 l Z av0 hw [] a0 b1 ka k1 c0 c1 h1 n0 Z1 f2 V1 ne_a0_b1 ge_b1 hc0 hc1) (by decide) (by decide) (g := (mkF m 9 #[rv a0, iv (0 : Int32), iv (2 : Int32), rv b1, .unset, .unset] [(.int (2 : Int32)), (.int (0 : Int32)), (.ref b1), (.int (0 : Int32)), (.ref a0)])) rfl (by rw [hml]; rfl) (argsL := [(.ref a0), (.int (0 : Int32)), (.ref b1), (.int (0 : Int32)), (.int (2 : Int32))]) (rest := []) (lenOf pd__CI_BII_I rfl) rfl (by show 2 * 0 + _ ≤ _; exact Nat.le_of_eq rfl) (hb hby d4_9) rfl e1 (by decide : 1 + 0 ≤ _) (by decide : 2 + 0 ≤ _)
  obtain ⟨rfl, N3q, K3, V3⟩ := hQ3
  have N3 := Fr.app N0 N3q
  have e3 : T3.heap = T3.heap := rfl
  have Zk3 : n0 ≤ T3.heap.size := Nat.le_trans Z1 K3.1
  have Kk3 : Keep h0 T3.heap [] := K1.trans K3 (allS (Or.inr sz_b1) all0)
  have S4 : ∀ t, Steps p.tables e below (T3.setTop (mkF m 58 #[rv a0, iv (0 : Int32), iv (2 : Int32), rv b1, iv (2 : Int32), .unset] [(.ref b1)])) t → Steps p.tables e below (s₁.setTop (mkF m 0 #[rv a0, iv (0 : Int32), iv (2 : Int32), .unset, .unset, .unset] [])) t := fun t k => id (by
    show Steps p.tables e below (s₁.setTop (mkF m 0 #[rv a0, iv (0 : Int32), iv (2 : Int32), .unset, .unset, .unset] [])) _
    refine XS.iloadN X0.here hx rfl (hb hby d4_0) rfl ?_
    refine st1 _ ?_
    refine XS.astoreN X1.here hx rfl (hb hby d4_3) rfl rfl (l' := #[rv a0, iv (0 : Int32), iv (2 : Int32), rv b1, .unset, .unset]) rfl ?_
    refine XS.aloadN X1.here hx rfl (hb hby d4_4) rfl rfl ?_
    refine XS.iloadN X1.here hx rfl (hb hby d4_5) rfl ?_
    refine XS.aloadN X1.here hx rfl (hb hby d4_6) rfl rfl ?_
    show Steps p.tables e below (T1.setTop (mkF m 7 #[rv a0, iv (0 : Int32), iv (2 : Int32), rv b1, .unset, .unset] [(.ref b1), (.int (0 : Int32)), (.ref a0)])) _
    refine XT.iconstV X1.here hx rfl (0 : Int32) (hb hby d4_7) (by decide) ?_
    refine XS.iloadN X1.here hx rfl (hb hby d4_8) rfl ?_
    refine st3 _ ?_
    refine XS.istore X3.here hx rfl (hb hby d4_12) rfl (l' := #[rv a0, iv (0 : Int32), iv (2 : Int32), rv b1, iv (2 : Int32), .unset]) rfl ?_
    refine XS.iload X3.here hx rfl (hb hby d4_14) rfl ?_
    refine XS.iloadN X3.here hx rfl (hb hby d4_16) rfl ?_
    show Steps p.tables e below (T3.setTop (mkF m 17 #[rv a0, iv (0 : Int32), iv (2 : Int32), rv b1, iv (2 : Int32), .unset] [(.int (2 : Int32)), (.int (2 : Int32))])) _
    refine XS.icmpYes X3.here hx rfl (pc0 := 17) (pc' := 57) rfl (hb hby d4_17) rfl (XT.ii_eq_t (by decide)) (by decide) (by decide) ?_
    refine XS.aloadN X3.here hx rfl (hb hby d4_57) rfl rfl ?_
    exact k)
  obtain ⟨fs, hr, hrun, hended, hW, hsame⟩ := X3.leave (v := some (.ref b1)) (fun h => by rw [Bd.returns] at h; cases h)
  refine ⟨_, _, pre0 _ (S4 _ ?_), hrun, hended, _, _, rfl, ?_, ⟨_, rfl⟩, hW, hsame.mono (by decide) (by decide)⟩
  · jvm_step X3.here [X3.here.top, hx, (hb hby d4_58), X3.method', Bd.returns, Value.isRef, FieldType.isReference]
    first | (intro acts; rw [hr _ acts rfl rfl rfl]) | rw [hr _ _ rfl rfl rfl]
    exact Steps.refl _
  · show QrmCp3_2 Z a0 ka c0 c1 h0 n0 _ T3.heap _
    rw [e3]
    exact ⟨_, _, rfl, N3, sz_b1, Kk3, V3⟩
theorem d6_0 : decode jdk_52_method_15_code 0 = .ok (.iload_n 1, 1) := by decide +kernel
theorem d6_1 : decode jdk_52_method_15_code 1 = .ok (.aload_n 0, 1) := by decide +kernel
theorem d6_2 : decode jdk_52_method_15_code 2 = .ok (.arraylength, 1) := by decide +kernel
theorem d6_3 : decode jdk_52_method_15_code 3 = .ok (.isub, 1) := by decide +kernel
theorem d6_4 : decode jdk_52_method_15_code 4 = .ok (.bipush 31, 2) := by decide +kernel
theorem d6_6 : decode jdk_52_method_15_code 6 = .ok (.iushr, 1) := by decide +kernel
theorem d6_7 : decode jdk_52_method_15_code 7 = .ok (.i2b, 1) := by decide +kernel
theorem d6_8 : decode jdk_52_method_15_code 8 = .ok (.ireturn, 1) := by decide +kernel
def QrmCd_2 (Z : State) (a0 : Addr) (ka : ClassId) (vs : List Value) (h0 : Heap) (n0 : Nat) (v : Option Value) (h : Heap) (L : List Loc) : Prop := v = some (.int 0) ∧ Fr n0 L ∧ h = h0
set_option maxRecDepth 65536 in
set_option maxHeartbeats 40000000 in
theorem rmCd_2 (l : Launch) (Z : State) (av0 : Array Value) (hw : ∀ d ∈ tables_1, d.before av0 Z = true) (ws : List Jvm.Cond) (a0 : Addr) (ka : ClassId) (vs : List Value) (h0 : Heap) (n0 : Nat) (Z0 : n0 ≤ h0.size) (hA : Arv Z h0 a0 ka .byte (2 : Int32) vs (.int (0 : Int32))) :
    MetFree l mN2 (head1 (Jvm.Cond.code mN2 jdk_52_method_15_code 2 (some .byte) :: ws) ({ frames := 0, cells := 0, slots := 0, locals := 0 } : Room)) (fun aU U => aU = #[(.ref a0), (.int (2 : Int32))] ∧ Z.Warmed39 U.vm ∧ U.heap = h0) (fun _ _ _ _ _ => True) (fun _ U oU U' => ∃ vU LU, oU = .returned vU ∧ QrmCd_2 Z a0 ka vs h0 n0 vU U'.heap LU ∧ FrameEnd U oU U' LU ({ frames := 0, cells := 0, slots := 0, locals := 0 } : Room).cells ({ frames := 0, cells := 0, slots := 0, locals := 0 } : Room).slots) := by
  refine MetFree.of_bodySF (plainFor_of_name pn_StringUTF16) hisR ?_
  intro p e s m args below meth c s₁ Bd hml0 hP hK
  obtain ⟨rfl, hZ, hh⟩ := hP
  have hx := Bd.exec
  have hby := Bd.bytes
  have hml : c.maxLocals = 2 := hml0
  have hown : s.vm.findClass "java/lang/StringUTF16" = some m.cls := findClass_of_methodNamed Bd.named
  have hnm := (name_of_methodNamed Bd.named Bd.method).1
  have X0 : Stand p l e ({ frames := 0, cells := 0, slots := 0, locals := 0 } : Room) s m #[(.ref a0), (.int (2 : Int32))] below meth c s₁ [] 0 0 := Stand.of_body Bd
  have e0 : s₁.heap = h0 := by rw [← hh, Bd.state]; rfl
  have N0 := Fr.nil n0
  have pre0 : ∀ t, Steps p.tables e below (s₁.setTop (mkF m 0 #[rv a0, iv (2 : Int32)] [])) t → Steps p.tables e below (s₁.setTop (entryFrame m #[(.ref a0), (.int (2 : Int32))] 2)) t := fun t k => castTop (by first | (simp [entryFrame, mkF, argsToLocals, Value.category]; done) | rfl) k
  obtain ⟨cl1, Ar1, qk1, Sz1, Ng1, Hs1, Gs1⟩ := id hA
  have S2 : ∀ t, Steps p.tables e below (s₁.setTop (mkF m 8 #[rv a0, iv (2 : Int32)] [(.int ((XT.ushr ((2 : Int32) - (2 : Int32)) (31 : Int32))).toInt8.toInt32)])) t → Steps p.tables e below (s₁.setTop (mkF m 0 #[rv a0, iv (2 : Int32)] [])) t := fun t k => id (by
    show Steps p.tables e below (s₁.setTop (mkF m 0 #[rv a0, iv (2 : Int32)] [])) _
    refine XS.iloadN X0.here hx rfl (hb hby d6_0) rfl ?_
    refine XS.aloadN X0.here hx rfl (hb hby d6_1) rfl rfl ?_
    refine X0.arraylength hx (by rw [e0]; exact Ar1.1) (State.isArrayOf_alike hZ.alike Ar1.2.1) (g := (mkF m 2 #[rv a0, iv (2 : Int32)] [(.ref a0), (.int (2 : Int32))])) rfl rfl (hb hby d6_2) _ ?_
    rw [len_of Sz1 Ng1]
    refine XS.isub X0.here hx rfl (hb hby d6_3) rfl ?_
    refine XT.bipushV X0.here hx rfl (31 : Int32) (hb hby d6_4) (by decide) ?_
    refine XT.iushr X0.here hx rfl (hb hby d6_6) rfl ?_
    show Steps p.tables e below (s₁.setTop (mkF m 7 #[rv a0, iv (2 : Int32)] [(.int (XT.ushr ((2 : Int32) - (2 : Int32)) (31 : Int32)))])) _
    refine XT.i2b X0.here hx rfl (hb hby d6_7) rfl ?_
    exact k)
  obtain ⟨fs, hr, hrun, hended, hW, hsame⟩ := X0.leave (v := some (.int (nar .byte ((XT.ushr ((2 : Int32) - (2 : Int32)) (31 : Int32))).toInt8.toInt32))) (fun h => by rw [Bd.returns] at h; cases h)
  refine ⟨_, _, pre0 _ (S2 _ ?_), hrun, hended, _, _, rfl, ?_, ⟨_, rfl⟩, hW, hsame.mono (by decide) (by decide)⟩
  · exact retN X0 hx (t := .byte) Bd.returns (by simp) (hb hby d6_8) hr
  · show QrmCd_2 Z a0 ka vs h0 n0 _ s₁.heap _
    rw [e0]
    exact ⟨congrArg (fun z => some (Value.int z)) (by decide), N0, rfl⟩
theorem d2_0 : decode jdk_42_method_149_code 0 = .ok (.aload_n 0, 1) := by decide +kernel
theorem d2_1 : decode jdk_42_method_149_code 1 = .ok (.invokespecial 1, 3) := by decide +kernel
theorem d2_4 : decode jdk_42_method_149_code 4 = .ok (.iload_n 3, 1) := by decide +kernel
theorem d2_5 : decode jdk_42_method_149_code 5 = .ok (.ifCond .ne 22, 3) := by decide +kernel
theorem d2_27 : decode jdk_42_method_149_code 27 = .ok (.getstatic 38, 3) := by decide +kernel
theorem d2_30 : decode jdk_42_method_149_code 30 = .ok (.ifCond .eq 28, 3) := by decide +kernel
theorem d2_33 : decode jdk_42_method_149_code 33 = .ok (.aload_n 1, 1) := by decide +kernel
theorem d2_34 : decode jdk_42_method_149_code 34 = .ok (.iload_n 2, 1) := by decide +kernel
theorem d2_35 : decode jdk_42_method_149_code 35 = .ok (.iload_n 3, 1) := by decide +kernel
theorem d2_36 : decode jdk_42_method_149_code 36 = .ok (.invokestatic 177, 3) := by decide +kernel
theorem d2_39 : decode jdk_42_method_149_code 39 = .ok (.astore 5, 2) := by decide +kernel
theorem d2_41 : decode jdk_42_method_149_code 41 = .ok (.aload_n 0, 1) := by decide +kernel
theorem d2_42 : decode jdk_42_method_149_code 42 = .ok (.aload 5, 2) := by decide +kernel
theorem d2_44 : decode jdk_42_method_149_code 44 = .ok (.iload_n 3, 1) := by decide +kernel
theorem d2_45 : decode jdk_42_method_149_code 45 = .ok (.invokestatic 47, 3) := by decide +kernel
theorem d2_48 : decode jdk_42_method_149_code 48 = .ok (.putfield 15, 3) := by decide +kernel
theorem d2_51 : decode jdk_42_method_149_code 51 = .ok (.aload_n 0, 1) := by decide +kernel
theorem d2_52 : decode jdk_42_method_149_code 52 = .ok (.aload 5, 2) := by decide +kernel
theorem d2_54 : decode jdk_42_method_149_code 54 = .ok (.putfield 9, 3) := by decide +kernel
theorem d2_57 : decode jdk_42_method_149_code 57 = .ok (.return_, 1) := by decide +kernel
theorem pn_String : plainName "java/lang/String" = true := by first | (simp [plainName, overriddenIn]; done) | decide +kernel
theorem pd__CII_B : parseMethodDescriptor "([CII)[B" = some ⟨[(.array .char), .int, .int], some (.array .byte)⟩ := by decide +kernel
theorem pd__BI_B : parseMethodDescriptor "([BI)B" = some ⟨[(.array .byte), .int], some .byte⟩ := by decide +kernel
def QrmSi4_2 (Z : State) (a0 : Addr) (a1 : Addr) (ka : ClassId) (wC : Int32) (c0 : Int32) (c1 : Int32) (h0 : Heap) (n0 : Nat) (v : Option Value) (h : Heap) (L : List Loc) : Prop := v = none ∧ Fr n0 L ∧ Keep h0 h [a0] ∧ Fld Z h a0 "java/lang/String" "coder" "B" (.int (0 : Int32)) ∧ ∃ (b : Addr) (k : ClassId), Fld Z h a0 "java/lang/String" "value" "[B" (.ref b) ∧ Arv Z h b k .byte (2 : Int32) [(.int (nar .byte (c0).toInt8.toInt32)), (.int (nar .byte (c1).toInt8.toInt32))] (.int (0 : Int32)) ∧ h0.size ≤ b
set_option maxRecDepth 65536 in
set_option maxHeartbeats 40000000 in
theorem rmSi4_2 (l : Launch) (Z : State) (av0 : Array Value) (hw : ∀ d ∈ tables_1, d.before av0 Z = true) (ws : List Jvm.Cond) (a0 : Addr) (a1 : Addr) (ka : ClassId) (wC : Int32) (c0 : Int32) (c1 : Int32) (h0 : Heap) (n0 : Nat) (Z0 : n0 ≤ h0.size) (hE : Exa Z h0 a0 "java/lang/String") (hV : Fld Z h0 a0 "java/lang/String" "value" "[B" .null) (hC : Fld Z h0 a0 "java/lang/String" "coder" "B" (.int (0 : Int32))) (hge : n0 ≤ a0) (hA : Arv Z h0 a1 ka .char (2 : Int32) [(.int c0), (.int c1)] (.int (0 : Int32))) (hS : Sta Z h0 "java/lang/String" "COMPACT_STRINGS" "Z" (.int wC)) (hw0 : ¬ wC = (0 : Int32)) (hc0 : ¬ (255 : Int32) < c0) (hc1 : ¬ (255 : Int32) < c1) :
    MetFree l mN3 (head1 (Jvm.Cond.code mN3 jdk_42_method_149_code 6 none :: ws) ({ frames := 2, cells := 1, slots := 2, locals := 35 } : Room)) (fun aU U => aU = #[(.ref a0), (.ref a1), (.int (0 : Int32)), (.int (2 : Int32)), .null] ∧ Z.Warmed39 U.vm ∧ U.heap = h0) (fun _ _ _ _ _ => True) (fun _ U oU U' => ∃ vU LU, oU = .returned vU ∧ QrmSi4_2 Z a0 a1 ka wC c0 c1 h0 n0 vU U'.heap LU ∧ FrameEnd U oU U' LU ({ frames := 2, cells := 1, slots := 2, locals := 35 } : Room).cells ({ frames := 2, cells := 1, slots := 2, locals := 35 } : Room).slots) := by
  refine MetFree.of_bodySF (plainFor_of_name pn_String) hisR ?_
  intro p e s m args below meth c s₁ Bd hml0 hP hK
  obtain ⟨rfl, hZ, hh⟩ := hP
  have hx := Bd.exec
  have hby := Bd.bytes
  have hml : c.maxLocals = 6 := hml0
  have hown : s.vm.findClass "java/lang/String" = some m.cls := findClass_of_methodNamed Bd.named
  have hnm := (name_of_methodNamed Bd.named Bd.method).1
  have X0 : Stand p l e ({ frames := 2, cells := 1, slots := 2, locals := 35 } : Room) s m #[(.ref a0), (.ref a1), (.int (0 : Int32)), (.int (2 : Int32)), .null] below meth c s₁ [] 0 0 := Stand.of_body Bd
  have e0 : s₁.heap = h0 := by rw [← hh, Bd.state]; rfl
  have N0 := Fr.nil n0
  have pre0 : ∀ t, Steps p.tables e below (s₁.setTop (mkF m 0 #[rv a0, rv a1, iv (0 : Int32), iv (2 : Int32), .val .null, .unset] [])) t → Steps p.tables e below (s₁.setTop (entryFrame m #[(.ref a0), (.ref a1), (.int (0 : Int32)), (.int (2 : Int32)), .null] 6)) t := fun t k => castTop (by first | (simp [entryFrame, mkF, argsToLocals, Value.category]; done) | rfl) k
  obtain ⟨T1, X1, e1, st1⟩ := initO X0 hx hZ hown (hw _ (List.mem_of_getElem? (i := 12) rfl)) (hw _ (List.mem_of_getElem? (i := 13) rfl)) (hw _ (List.mem_of_getElem? (i := 14) rfl)) e0 (g := (mkF m 1 #[rv a0, rv a1, iv (0 : Int32), iv (2 : Int32), .val .null, .unset] [(.ref a0)])) rfl (by rw [hml]; rfl) rfl (hb hby d2_1) (by decide) (W := 0) (by show 2 * 0 + _ ≤ _; exact Nat.le_of_eq rfl) (by decide)
  obtain ⟨T2, X2, e2, st2⟩ := getS2 X1 hx hZ hown (host := "") (Or.inl (hw _ (List.mem_of_getElem? (i := 15) rfl))) Via.refl e1 hS (g := (mkF m 27 #[rv a0, rv a1, iv (0 : Int32), iv (2 : Int32), .val .null, .unset] [])) rfl (hb hby d2_27)
  obtain ⟨_, T3, Lc3, X3, hQ3, st3⟩ := own_callS (W := 0) (y := mN1) X2 hx hZ hown (hw _ (List.mem_of_getElem? (i := 16) rfl)) (hw _ (List.mem_of_getElem? (i := 17) rfl)) (hw _ (List.mem_of_getElem? (i := 18) rfl)) (hw _ (List.mem_of_getElem? (i := 19) rfl)) (by decide) (rmCp3_2 l Z av0 hw [] a1 ka c0 c1 h0 n0 Z0 hA hc0 hc1) (by decide) (by decide) (g := (mkF m 36 #[rv a0, rv a1, iv (0 : Int32), iv (2 : Int32), .val .null, .unset] [(.int (2 : Int32)), (.int (0 : Int32)), (.ref a1)])) rfl (by rw [hml]; rfl) (argsL := [(.ref a1), (.int (0 : Int32)), (.int (2 : Int32))]) (rest := []) (lenOf pd__CII_B rfl) rfl (by show 2 * 0 + _ ≤ _; exact Nat.le_of_eq rfl) (hb hby d2_36) rfl e2 (by decide : 0 + 1 ≤ _) (by decide : 0 + 2 ≤ _)
  obtain ⟨b3, kb3, rfl, N3q, gb3, K3, V3⟩ := hQ3
  have N3 := Fr.app N0 N3q
  have e3 : T3.heap = T3.heap := rfl
  have ne_a0_b3 : a0 ≠ b3 := Nat.ne_of_lt (Nat.lt_of_lt_of_le hE.lt gb3)
  have ne_a1_b3 : a1 ≠ b3 := Nat.ne_of_lt (Nat.lt_of_lt_of_le hA.lt gb3)
  have ge_b3 : n0 ≤ b3 := Nat.le_trans Z0 gb3
  have sz_b3 : h0.size ≤ b3 := gb3
  have Zk3 : n0 ≤ T3.heap.size := Nat.le_trans Z0 K3.1
  have Kk3 : Keep h0 T3.heap [a0] := (Keep.refl h0 [a0]).trans K3 all0
  obtain ⟨_, T4, Lc4, X4, hQ4, st4⟩ := own_callS (W := 1) (y := mN2) X3 hx hZ hown (hw _ (List.mem_of_getElem? (i := 24) rfl)) (hw _ (List.mem_of_getElem? (i := 25) rfl)) (hw _ (List.mem_of_getElem? (i := 18) rfl)) (hw _ (List.mem_of_getElem? (i := 26) rfl)) (by decide) (rmCd_2 l Z av0 hw [] b3 kb3 [(.int (nar .byte (c0).toInt8.toInt32)), (.int (nar .byte (c1).toInt8.toInt32))] T3.heap n0 Zk3 V3) (by decide) (by decide) (g := (mkF m 45 #[rv a0, rv a1, iv (0 : Int32), iv (2 : Int32), .val .null, rv b3] [(.int (2 : Int32)), (.ref b3), (.ref a0)])) rfl (by rw [hml]; rfl) (argsL := [(.ref b3), (.int (2 : Int32))]) (rest := [(.ref a0)]) (lenOf pd__BI_B rfl) rfl (by show 2 * 0 + _ ≤ _; exact Nat.le_of_eq rfl) (hb hby d2_45) rfl e3 (by decide : 1 + 0 ≤ _) (by decide : 2 + 0 ≤ _)
  obtain ⟨rfl, N4q, hh4⟩ := hQ4
  have N4 := Fr.app N3 N4q
  have e4 : T4.heap = T3.heap := hh4
  have f5 := (hC.keep K3 nin0)
  have f6 := (hE.keep K3)
  obtain ⟨T7, h7, X7, e7, W7, st7⟩ := putFN X4 hx hZ hown (hw _ (List.mem_of_getElem? (i := 27) rfl)) Via.refl e4 f5 f6 (Or.inr ⟨(hw _ (List.mem_of_getElem? (i := 28) rfl)), rfl, hnm⟩) (hw _ (List.mem_of_getElem? (i := 2) rfl)) (ty := .byte) (v' := (.int (0 : Int32))) (by decide) rfl rfl (g := (mkF m 48 #[rv a0, rv a1, iv (0 : Int32), iv (2 : Int32), .val .null, rv b3] [(.int (0 : Int32)), (.ref a0)])) rfl rfl (hb hby d2_48)
  have N7 := Fr.snoc X7 N4 hge
  have Z7 : n0 ≤ h7.size := Nat.le_trans Zk3 (Nat.le_of_eq W7.size.symm)
  have K7 : Keep h0 h7 [a0] := Kk3.wr W7 (Or.inl (List.mem_of_getElem? (i := 0) rfl))
  have Fw7 := f5.same W7
  have f8 := ((hV.keep K3 nin0).other W7 (Or.inr (slot_ne (Or.inr (hw _ (List.mem_of_getElem? (i := 30) rfl))) (Or.inr (hw _ (List.mem_of_getElem? (i := 28) rfl))) (by decide) (t := (.array .byte)) (t' := .byte) (by decide) (by decide))))
  have f9 := (f6.wr W7)
  obtain ⟨T10, h10, X10, e10, W10, st10⟩ := putF X7 hx hZ hown (host := "") (Or.inl (hw _ (List.mem_of_getElem? (i := 29) rfl))) Via.refl e7 f8 f9 (Or.inr ⟨(hw _ (List.mem_of_getElem? (i := 30) rfl)), rfl, hnm⟩) (hw _ (List.mem_of_getElem? (i := 2) rfl)) (ty := (.array .byte)) (by decide) rfl rfl (g := (mkF m 54 #[rv a0, rv a1, iv (0 : Int32), iv (2 : Int32), .val .null, rv b3] [(.ref b3), (.ref a0)])) rfl rfl (hb hby d2_54)
  have N10 := Fr.snoc X10 N7 hge
  have Z10 : n0 ≤ h10.size := Nat.le_trans Z7 (Nat.le_of_eq W10.size.symm)
  have K10 : Keep h0 h10 [a0] := K7.wr W10 (Or.inl (List.mem_of_getElem? (i := 0) rfl))
  have Fw10 := f8.same W10
  have S11 : ∀ t, Steps p.tables e below (T10.setTop (mkF m 57 #[rv a0, rv a1, iv (0 : Int32), iv (2 : Int32), .val .null, rv b3] [])) t → Steps p.tables e below (s₁.setTop (mkF m 0 #[rv a0, rv a1, iv (0 : Int32), iv (2 : Int32), .val .null, .unset] [])) t := fun t k => id (by
    show Steps p.tables e below (s₁.setTop (mkF m 0 #[rv a0, rv a1, iv (0 : Int32), iv (2 : Int32), .val .null, .unset] [])) _
    refine XS.aloadN X0.here hx rfl (hb hby d2_0) rfl rfl ?_
    refine st1 _ ?_
    refine XS.iloadN X1.here hx rfl (hb hby d2_4) rfl ?_
    refine XS.ifYes X1.here hx rfl (pc0 := 5) (pc' := 27) rfl (hb hby d2_5) rfl (XT.i0_ne_t (by decide)) (by decide) (by decide) ?_
    refine st2 _ ?_
    refine XS.ifNo X2.here hx rfl (hb hby d2_30) rfl (XT.i0_eq_f hw0) ?_
    show Steps p.tables e below (T2.setTop (mkF m 33 #[rv a0, rv a1, iv (0 : Int32), iv (2 : Int32), .val .null, .unset] [])) _
    refine XS.aloadN X2.here hx rfl (hb hby d2_33) rfl rfl ?_
    refine XS.iloadN X2.here hx rfl (hb hby d2_34) rfl ?_
    refine XS.iloadN X2.here hx rfl (hb hby d2_35) rfl ?_
    refine st3 _ ?_
    refine XS.astore X3.here hx rfl (hb hby d2_39) rfl rfl (l' := #[rv a0, rv a1, iv (0 : Int32), iv (2 : Int32), .val .null, rv b3]) rfl ?_
    refine XS.aloadN X3.here hx rfl (hb hby d2_41) rfl rfl ?_
    show Steps p.tables e below (T3.setTop (mkF m 42 #[rv a0, rv a1, iv (0 : Int32), iv (2 : Int32), .val .null, rv b3] [(.ref a0)])) _
    refine XS.aload X3.here hx rfl (hb hby d2_42) rfl rfl ?_
    refine XS.iloadN X3.here hx rfl (hb hby d2_44) rfl ?_
    refine st4 _ ?_
    refine st7 _ ?_
    refine XS.aloadN X7.here hx rfl (hb hby d2_51) rfl rfl ?_
    refine XS.aload X7.here hx rfl (hb hby d2_52) rfl rfl ?_
    show Steps p.tables e below (T7.setTop (mkF m 54 #[rv a0, rv a1, iv (0 : Int32), iv (2 : Int32), .val .null, rv b3] [(.ref b3), (.ref a0)])) _
    refine st10 _ ?_
    exact k)
  obtain ⟨fs, hr, hrun, hended, hW, hsame⟩ := X10.leave (v := none) (fun _ => rfl)
  refine ⟨_, _, pre0 _ (S11 _ ?_), hrun, hended, _, _, rfl, ?_, ⟨_, rfl⟩, hW, hsame.mono (by decide) (by decide)⟩
  · exact X10.returnOut hx Bd.returns (hb hby d2_57) hr
  have f12 := (Fw7.other W10 (Or.inr (slot_ne (Or.inr (hw _ (List.mem_of_getElem? (i := 28) rfl))) (Or.inr (hw _ (List.mem_of_getElem? (i := 30) rfl))) (by decide) (t := .byte) (t' := (.array .byte)) (by decide) (by decide))))
  have f13 := ((V3.other W7 (Ne.symm ne_a0_b3)).other W10 (Ne.symm ne_a0_b3))
  · show QrmSi4_2 Z a0 a1 ka wC c0 c1 h0 n0 _ T10.heap _
    rw [e10]
    exact ⟨rfl, N10, K10, f12, b3, _, Fw10, f13, sz_b3⟩
theorem d1_0 : decode jdk_42_method_3_code 0 = .ok (.aload_n 0, 1) := by decide +kernel
theorem d1_1 : decode jdk_42_method_3_code 1 = .ok (.aload_n 1, 1) := by decide +kernel
theorem d1_2 : decode jdk_42_method_3_code 2 = .ok (.iconst 0, 1) := by decide +kernel
theorem d1_3 : decode jdk_42_method_3_code 3 = .ok (.aload_n 1, 1) := by decide +kernel
theorem d1_4 : decode jdk_42_method_3_code 4 = .ok (.arraylength, 1) := by decide +kernel
theorem d1_5 : decode jdk_42_method_3_code 5 = .ok (.aconst_null, 1) := by decide +kernel
theorem d1_6 : decode jdk_42_method_3_code 6 = .ok (.invokespecial 27, 3) := by decide +kernel
theorem d1_9 : decode jdk_42_method_3_code 9 = .ok (.return_, 1) := by decide +kernel
theorem pd__CIILjava_lang_Void_V : parseMethodDescriptor "([CIILjava/lang/Void;)V" = some ⟨[(.array .char), .int, .int, (.object "java/lang/Void")], none⟩ := by decide +kernel
def QrmSi2_2 (Z : State) (a0 : Addr) (a1 : Addr) (ka : ClassId) (wC : Int32) (c0 : Int32) (c1 : Int32) (h0 : Heap) (n0 : Nat) (v : Option Value) (h : Heap) (L : List Loc) : Prop := v = none ∧ Fr n0 L ∧ Keep h0 h [a0] ∧ Fld Z h a0 "java/lang/String" "coder" "B" (.int (0 : Int32)) ∧ ∃ (b : Addr) (k : ClassId), Fld Z h a0 "java/lang/String" "value" "[B" (.ref b) ∧ Arv Z h b k .byte (2 : Int32) [(.int (nar .byte (c0).toInt8.toInt32)), (.int (nar .byte (c1).toInt8.toInt32))] (.int (0 : Int32)) ∧ h0.size ≤ b
set_option maxRecDepth 65536 in
set_option maxHeartbeats 40000000 in
theorem rmSi2_2 (l : Launch) (Z : State) (av0 : Array Value) (hw : ∀ d ∈ tables_1, d.before av0 Z = true) (ws : List Jvm.Cond) (a0 : Addr) (a1 : Addr) (ka : ClassId) (wC : Int32) (c0 : Int32) (c1 : Int32) (h0 : Heap) (n0 : Nat) (Z0 : n0 ≤ h0.size) (hE : Exa Z h0 a0 "java/lang/String") (hV : Fld Z h0 a0 "java/lang/String" "value" "[B" .null) (hC : Fld Z h0 a0 "java/lang/String" "coder" "B" (.int (0 : Int32))) (hge : n0 ≤ a0) (hA : Arv Z h0 a1 ka .char (2 : Int32) [(.int c0), (.int c1)] (.int (0 : Int32))) (hS : Sta Z h0 "java/lang/String" "COMPACT_STRINGS" "Z" (.int wC)) (hw0 : ¬ wC = (0 : Int32)) (hc0 : ¬ (255 : Int32) < c0) (hc1 : ¬ (255 : Int32) < c1) :
    MetFree l mN4 (head1 (Jvm.Cond.code mN4 jdk_42_method_3_code 2 none :: ws) ({ frames := 3, cells := 1, slots := 2, locals := 52 } : Room)) (fun aU U => aU = #[(.ref a0), (.ref a1)] ∧ Z.Warmed39 U.vm ∧ U.heap = h0) (fun _ _ _ _ _ => True) (fun _ U oU U' => ∃ vU LU, oU = .returned vU ∧ QrmSi2_2 Z a0 a1 ka wC c0 c1 h0 n0 vU U'.heap LU ∧ FrameEnd U oU U' LU ({ frames := 3, cells := 1, slots := 2, locals := 52 } : Room).cells ({ frames := 3, cells := 1, slots := 2, locals := 52 } : Room).slots) := by
  refine MetFree.of_bodySF (plainFor_of_name pn_String) hisR ?_
  intro p e s m args below meth c s₁ Bd hml0 hP hK
  obtain ⟨rfl, hZ, hh⟩ := hP
  have hx := Bd.exec
  have hby := Bd.bytes
  have hml : c.maxLocals = 2 := hml0
  have hown : s.vm.findClass "java/lang/String" = some m.cls := findClass_of_methodNamed Bd.named
  have hnm := (name_of_methodNamed Bd.named Bd.method).1
  have X0 : Stand p l e ({ frames := 3, cells := 1, slots := 2, locals := 52 } : Room) s m #[(.ref a0), (.ref a1)] below meth c s₁ [] 0 0 := Stand.of_body Bd
  have e0 : s₁.heap = h0 := by rw [← hh, Bd.state]; rfl
  have N0 := Fr.nil n0
  have pre0 : ∀ t, Steps p.tables e below (s₁.setTop (mkF m 0 #[rv a0, rv a1] [])) t → Steps p.tables e below (s₁.setTop (entryFrame m #[(.ref a0), (.ref a1)] 2)) t := fun t k => castTop (by first | (simp [entryFrame, mkF, argsToLocals, Value.category]; done) | rfl) k
  obtain ⟨cl1, Ar1, qk1, Sz1, Ng1, Hs1, Gs1⟩ := id hA
  obtain ⟨_, T2, Lc2, X2, hQ2, st2⟩ := own_special (W := 0) (y := mN3) X0 hx hZ rfl hown (hw _ (List.mem_of_getElem? (i := 8) rfl)) (hw _ (List.mem_of_getElem? (i := 9) rfl)) (hw _ (List.mem_of_getElem? (i := 11) rfl)) (hw _ (List.mem_of_getElem? (i := 3) rfl)) (by decide) (rmSi4_2 l Z av0 hw [] a0 a1 ka wC c0 c1 h0 n0 Z0 hE hV hC hge hA hS hw0 hc0 hc1) (by decide) (by decide) (g := (mkF m 6 #[rv a0, rv a1] [.null, (.int (2 : Int32)), (.int (0 : Int32)), (.ref a1), (.ref a0)])) rfl (by rw [hml]; rfl) (a := a0) (argsL := [(.ref a1), (.int (0 : Int32)), (.int (2 : Int32)), .null]) (rest := []) (lenOf pd__CIILjava_lang_Void_V rfl) rfl (by show 2 * 0 + _ ≤ _; exact Nat.le_of_eq rfl) (hb hby d1_6) rfl e0 (by decide : 0 + 1 ≤ _) (by decide : 0 + 2 ≤ _)
  obtain ⟨rfl, N2q, K2, FC2, b2, kb2, FV2, V2, gb2⟩ := hQ2
  have N2 := Fr.app N0 N2q
  have e2 : T2.heap = T2.heap := rfl
  have ne_a0_b2 : a0 ≠ b2 := Nat.ne_of_lt (Nat.lt_of_lt_of_le hE.lt gb2)
  have ne_a1_b2 : a1 ≠ b2 := Nat.ne_of_lt (Nat.lt_of_lt_of_le hA.lt gb2)
  have ge_b2 : n0 ≤ b2 := Nat.le_trans Z0 gb2
  have sz_b2 : h0.size ≤ b2 := gb2
  have Zk2 : n0 ≤ T2.heap.size := Nat.le_trans Z0 K2.1
  have Kk2 : Keep h0 T2.heap [a0] := (Keep.refl h0 [a0]).trans K2 (allS (Or.inl (List.mem_of_getElem? (i := 0) rfl)) all0)
  have S3 : ∀ t, Steps p.tables e below (T2.setTop (mkF m 9 #[rv a0, rv a1] [])) t → Steps p.tables e below (s₁.setTop (mkF m 0 #[rv a0, rv a1] [])) t := fun t k => id (by
    show Steps p.tables e below (s₁.setTop (mkF m 0 #[rv a0, rv a1] [])) _
    refine XS.aloadN X0.here hx rfl (hb hby d1_0) rfl rfl ?_
    refine XS.aloadN X0.here hx rfl (hb hby d1_1) rfl rfl ?_
    refine XT.iconstV X0.here hx rfl (0 : Int32) (hb hby d1_2) (by decide) ?_
    refine XS.aloadN X0.here hx rfl (hb hby d1_3) rfl rfl ?_
    refine X0.arraylength hx (by rw [e0]; exact Ar1.1) (State.isArrayOf_alike hZ.alike Ar1.2.1) (g := (mkF m 4 #[rv a0, rv a1] [(.ref a1), (.int (0 : Int32)), (.ref a1), (.ref a0)])) rfl rfl (hb hby d1_4) _ ?_
    rw [len_of Sz1 Ng1]
    refine XS.aconstNull X0.here hx rfl (hb hby d1_5) ?_
    show Steps p.tables e below (s₁.setTop (mkF m 6 #[rv a0, rv a1] [.null, (.int (2 : Int32)), (.int (0 : Int32)), (.ref a1), (.ref a0)])) _
    refine st2 _ ?_
    exact k)
  obtain ⟨fs, hr, hrun, hended, hW, hsame⟩ := X2.leave (v := none) (fun _ => rfl)
  refine ⟨_, _, pre0 _ (S3 _ ?_), hrun, hended, _, _, rfl, ?_, ⟨_, rfl⟩, hW, hsame.mono (by decide) (by decide)⟩
  · exact X2.returnOut hx Bd.returns (hb hby d1_9) hr
  · show QrmSi2_2 Z a0 a1 ka wC c0 c1 h0 n0 _ T2.heap _
    rw [e2]
    exact ⟨rfl, N2, Kk2, FC2, b2, _, FV2, V2, sz_b2⟩
theorem d2_8 : decode jdk_42_method_149_code 8 = .ok (.aload_n 0, 1) := by decide +kernel
theorem d2_9 : decode jdk_42_method_149_code 9 = .ok (.ldc 7, 2) := by decide +kernel
theorem d2_11 : decode jdk_42_method_149_code 11 = .ok (.getfield 9, 3) := by decide +kernel
theorem d2_14 : decode jdk_42_method_149_code 14 = .ok (.putfield 9, 3) := by decide +kernel
theorem d2_17 : decode jdk_42_method_149_code 17 = .ok (.aload_n 0, 1) := by decide +kernel
theorem d2_18 : decode jdk_42_method_149_code 18 = .ok (.ldc 7, 2) := by decide +kernel
theorem d2_20 : decode jdk_42_method_149_code 20 = .ok (.getfield 15, 3) := by decide +kernel
theorem d2_23 : decode jdk_42_method_149_code 23 = .ok (.putfield 15, 3) := by decide +kernel
theorem d2_26 : decode jdk_42_method_149_code 26 = .ok (.return_, 1) := by decide +kernel
def QrmSi4_e (Z : State) (a0 : Addr) (a1 : Addr) (ka : ClassId) (h0 : Heap) (n0 : Nat) (v : Option Value) (h : Heap) (L : List Loc) : Prop := v = none ∧ Fr n0 L ∧ Keep h0 h [a0] ∧ Fld Z h a0 "java/lang/String" "coder" "B" (.int (0 : Int32)) ∧ ∃ (b : Addr) (k : ClassId), Fld Z h a0 "java/lang/String" "value" "[B" (.ref b) ∧ Arv Z h b k .byte (0 : Int32) [] (.int 0)
set_option maxRecDepth 65536 in
set_option maxHeartbeats 40000000 in
theorem rmSi4_e (l : Launch) (Z : State) (av0 : Array Value) (hw : ∀ d ∈ tables_1, d.before av0 Z = true) (ws : List Jvm.Cond) (a0 : Addr) (a1 : Addr) (ka : ClassId) (h0 : Heap) (n0 : Nat) (Z0 : n0 ≤ h0.size) (hE : Exa Z h0 a0 "java/lang/String") (hV : Fld Z h0 a0 "java/lang/String" "value" "[B" .null) (hC : Fld Z h0 a0 "java/lang/String" "coder" "B" (.int (0 : Int32))) (hge : n0 ≤ a0) (hA : Arv Z h0 a1 ka .char (0 : Int32) [] (.int (0 : Int32))) (hkp : ∀ (b : Addr) (cl : Cell), Z.heap[b]? = some cl → h0[b]? = some cl) (hcH : Jvm.Lit.constHeld Z "java/lang/String" 7) (hcw : Jvm.Lit.compactW.before av0 Z = true) :
    MetFree l mN3 (head1 (Jvm.Cond.code mN3 jdk_42_method_149_code 6 none :: ws) ({ frames := 1, cells := 2, slots := 4, locals := 12 } : Room)) (fun aU U => aU = #[(.ref a0), (.ref a1), (.int (0 : Int32)), (.int (0 : Int32)), .null] ∧ Z.Warmed39 U.vm ∧ U.heap = h0 ∧ IB Z U.vm []) (fun _ _ _ _ _ => True) (fun _ U oU U' => ∃ vU LU, oU = .returned vU ∧ QrmSi4_e Z a0 a1 ka h0 n0 vU U'.heap LU ∧ ReturnedEndW U oU U' LU ({ frames := 1, cells := 2, slots := 4, locals := 12 } : Room).cells ({ frames := 1, cells := 2, slots := 4, locals := 12 } : Room).slots) := by
  refine MetFree.of_bodySF (plainFor_of_name pn_String) hisR ?_
  intro p e s m args below meth c s₁ Bd hml0 hP hK
  obtain ⟨rfl, hZ, hh, hI⟩ := hP
  have hx := Bd.exec
  have hby := Bd.bytes
  have hml : c.maxLocals = 6 := hml0
  have hown : s.vm.findClass "java/lang/String" = some m.cls := findClass_of_methodNamed Bd.named
  have hnm := (name_of_methodNamed Bd.named Bd.method).1
  have X0 : Stand p l e ({ frames := 1, cells := 2, slots := 4, locals := 12 } : Room) s m #[(.ref a0), (.ref a1), (.int (0 : Int32)), (.int (0 : Int32)), .null] below meth c s₁ [] 0 0 := Stand.of_body Bd
  have e0 : s₁.heap = h0 := by rw [← hh, Bd.state]; rfl
  have N0 := Fr.nil n0
  have pre0 : ∀ t, Steps p.tables e below (s₁.setTop (mkF m 0 #[rv a0, rv a1, iv (0 : Int32), iv (0 : Int32), .val .null, .unset] [])) t → Steps p.tables e below (s₁.setTop (entryFrame m #[(.ref a0), (.ref a1), (.int (0 : Int32)), (.int (0 : Int32)), .null] 6)) t := fun t k => castTop (by first | (simp [entryFrame, mkF, argsToLocals, Value.category]; done) | rfl) k
  obtain ⟨T1, X1, e1, st1⟩ := initO X0 hx hZ hown (hw _ (List.mem_of_getElem? (i := 12) rfl)) (hw _ (List.mem_of_getElem? (i := 13) rfl)) (hw _ (List.mem_of_getElem? (i := 14) rfl)) e0 (g := (mkF m 1 #[rv a0, rv a1, iv (0 : Int32), iv (0 : Int32), .val .null, .unset] [(.ref a0)])) rfl (by rw [hml]; rfl) rfl (hb hby d2_1) (by decide) (W := 0) (by show 2 * 0 + _ ≤ _; exact Nat.le_of_eq rfl) (by decide)
  have S3 : ∀ t, Steps p.tables e below (T1.setTop (mkF m 9 #[rv a0, rv a1, iv (0 : Int32), iv (0 : Int32), .val .null, .unset] [(.ref a0)])) t → Steps p.tables e below (s₁.setTop (mkF m 0 #[rv a0, rv a1, iv (0 : Int32), iv (0 : Int32), .val .null, .unset] [])) t := fun t k => id (by
    show Steps p.tables e below (s₁.setTop (mkF m 0 #[rv a0, rv a1, iv (0 : Int32), iv (0 : Int32), .val .null, .unset] [])) _
    refine XS.aloadN X0.here hx rfl (hb hby d2_0) rfl rfl ?_
    refine st1 _ ?_
    refine XS.iloadN X1.here hx rfl (hb hby d2_4) rfl ?_
    refine XS.ifNo X1.here hx rfl (hb hby d2_5) rfl (XT.i0_ne_f (by decide)) ?_
    refine XS.aloadN X1.here hx rfl (hb hby d2_8) rfl rfl ?_
    exact k)
  obtain ⟨a2, T2, h2, ks2, b2, k2, X2, e2, E2, hS2, hk2, hZ, hown, Ea2, Fc2, Fv2, Av2, la2, lb2, I2, Li2, st2⟩ := ldcSVL (s := s) (vm0 := s.vm) (show Stand p l e _ (s.setVm s.vm) m _ below meth c _ _ _ _ from X1) hx hZ hown (hw _ (List.mem_of_getElem? (i := 68) rfl)) (own_wS hw) e1 (k0 := 0) ((State.WarmedH.refl s).since 0) (Nat.zero_le _) (Fr.nil _) (fun b cl q => by rw [hh]; exact hkp b cl q) hI (by simp) hcH hcw (vs := []) (z := (0 : Int32)) ⟨by decide, rfl⟩ (by decide) rfl (g := (mkF m 9 #[rv a0, rv a1, iv (0 : Int32), iv (0 : Int32), .val .null, .unset] [(.ref a0)])) rfl (hb hby d2_9) (n := 0) (by decide) (by decide) (by decide) (by decide)
  have Z2 : n0 ≤ h2.size := Nat.le_trans Z0 E2.1
  have K2 : Keep h0 h2 [a0] := (Keep.refl h0 [a0]).ext E2
  have f4 := (hV.ext E2)
  have ne_a0_a2 : a0 ≠ a2 := Fld.ne f4 Fv2 (by nofun)
  have f5 := (hE.ext E2)
  have ne_a0_b2 : a0 ≠ b2 := f5.neArv Av2 (hw _ (List.mem_of_getElem? (i := 2) rfl))
  obtain ⟨T6, X6, e6, st6⟩ := getF X2 hx hZ hown (host := "") (Or.inl (hw _ (List.mem_of_getElem? (i := 29) rfl))) Via.refl e2 Fv2 (g := (mkF m 11 #[rv a0, rv a1, iv (0 : Int32), iv (0 : Int32), .val .null, .unset] [(.ref a2), (.ref a0)])) rfl rfl (hb hby d2_11)
  obtain ⟨T7, h7, X7, e7, W7, st7⟩ := putF X6 hx hZ hown (host := "") (Or.inl (hw _ (List.mem_of_getElem? (i := 29) rfl))) Via.refl e6 f4 f5 (Or.inr ⟨(hw _ (List.mem_of_getElem? (i := 30) rfl)), rfl, hnm⟩) (hw _ (List.mem_of_getElem? (i := 2) rfl)) (ty := (.array .byte)) (by decide) rfl rfl (g := (mkF m 14 #[rv a0, rv a1, iv (0 : Int32), iv (0 : Int32), .val .null, .unset] [(.ref b2), (.ref a0)])) rfl rfl (hb hby d2_14)
  have N7 := Fr.snoc X7 N0 hge
  have Z7 : n0 ≤ h7.size := Nat.le_trans Z2 (Nat.le_of_eq W7.size.symm)
  have K7 : Keep h0 h7 [a0] := K2.wr W7 (Or.inl (List.mem_of_getElem? (i := 0) rfl))
  have Fw7 := f4.same W7
  have f9 := (Fc2.other W7 (Or.inl (Ne.symm ne_a0_a2)))
  obtain ⟨T10, X10, e10, st10⟩ := getF X7 hx hZ hown (host := "") (Or.inl (hw _ (List.mem_of_getElem? (i := 27) rfl))) Via.refl e7 f9 (g := (mkF m 20 #[rv a0, rv a1, iv (0 : Int32), iv (0 : Int32), .val .null, .unset] [(.ref a2), (.ref a0)])) rfl rfl (hb hby d2_20)
  have f11 := ((hC.ext E2).other W7 (Or.inr (slot_ne (Or.inr (hw _ (List.mem_of_getElem? (i := 28) rfl))) (Or.inr (hw _ (List.mem_of_getElem? (i := 30) rfl))) (by decide) (t := .byte) (t' := (.array .byte)) (by decide) (by decide))))
  have f12 := (f5.wr W7)
  obtain ⟨T13, h13, X13, e13, W13, st13⟩ := putFN X10 hx hZ hown (hw _ (List.mem_of_getElem? (i := 27) rfl)) Via.refl e10 f11 f12 (Or.inr ⟨(hw _ (List.mem_of_getElem? (i := 28) rfl)), rfl, hnm⟩) (hw _ (List.mem_of_getElem? (i := 2) rfl)) (ty := .byte) (v' := (.int (0 : Int32))) (by decide) rfl rfl (g := (mkF m 23 #[rv a0, rv a1, iv (0 : Int32), iv (0 : Int32), .val .null, .unset] [(.int (0 : Int32)), (.ref a0)])) rfl rfl (hb hby d2_23)
  have N13 := Fr.snoc X13 N7 hge
  have Z13 : n0 ≤ h13.size := Nat.le_trans Z7 (Nat.le_of_eq W13.size.symm)
  have K13 : Keep h0 h13 [a0] := K7.wr W13 (Or.inl (List.mem_of_getElem? (i := 0) rfl))
  have Fw13 := f11.same W13
  have S14 : ∀ t, Steps p.tables e below (T13.setTop (mkF m 26 #[rv a0, rv a1, iv (0 : Int32), iv (0 : Int32), .val .null, .unset] [])) t → Steps p.tables e below (s₁.setTop (mkF m 0 #[rv a0, rv a1, iv (0 : Int32), iv (0 : Int32), .val .null, .unset] [])) t := fun t k => S3 t (by
    show Steps p.tables e below (T1.setTop (mkF m 9 #[rv a0, rv a1, iv (0 : Int32), iv (0 : Int32), .val .null, .unset] [(.ref a0)])) _
    refine st2 _ ?_
    show Steps p.tables e below (T2.setTop (mkF m 11 #[rv a0, rv a1, iv (0 : Int32), iv (0 : Int32), .val .null, .unset] [(.ref a2), (.ref a0)])) _
    refine st6 _ ?_
    refine st7 _ ?_
    refine XS.aloadN X7.here hx rfl (hb hby d2_17) rfl rfl ?_
    refine ldcAgain X7 hx hZ hown (hw _ (List.mem_of_getElem? (i := 68) rfl)) Li2 (g := (mkF m 18 #[rv a0, rv a1, iv (0 : Int32), iv (0 : Int32), .val .null, .unset] [(.ref a0)])) rfl (hb hby d2_18) _ ?_
    refine st10 _ ?_
    refine st13 _ ?_
    show Steps p.tables e below (T13.setTop (mkF m 26 #[rv a0, rv a1, iv (0 : Int32), iv (0 : Int32), .val .null, .unset] [])) _
    exact k)
  obtain ⟨fs, hr, hrun, hended, hEnd⟩ := X13.leaveW hS2 (by rw [e13]; exact (Nat.le_trans (Nat.le_trans hk2 (Nat.le_of_eq W7.size.symm)) (Nat.le_of_eq W13.size.symm))) (v := none) (fun _ => rfl)
  refine ⟨_, _, pre0 _ (S14 _ ?_), hrun, hended, _, _, rfl, ?_, hEnd.1, hEnd.2.1, hEnd.2.2.1, hEnd.2.2.2.mono (by decide) (by decide)⟩
  · exact X13.returnOut hx Bd.returns (hb hby d2_26) hr
  have f15 := (Fw7.other W13 (Or.inr (slot_ne (Or.inr (hw _ (List.mem_of_getElem? (i := 30) rfl))) (Or.inr (hw _ (List.mem_of_getElem? (i := 28) rfl))) (by decide) (t := (.array .byte)) (t' := .byte) (by decide) (by decide))))
  have f16 := ((Av2.other W7 (Ne.symm ne_a0_b2)).other W13 (Ne.symm ne_a0_b2))
  · show QrmSi4_e Z a0 a1 ka h0 n0 _ T13.heap _
    rw [e13]
    exact ⟨rfl, N13, K13, Fw13, b2, _, f15, f16⟩
def QrmSi2_e (Z : State) (a0 : Addr) (a1 : Addr) (ka : ClassId) (h0 : Heap) (n0 : Nat) (v : Option Value) (h : Heap) (L : List Loc) : Prop := v = none ∧ Fr n0 L ∧ Keep h0 h [a0] ∧ Fld Z h a0 "java/lang/String" "coder" "B" (.int (0 : Int32)) ∧ ∃ (b : Addr) (k : ClassId), Fld Z h a0 "java/lang/String" "value" "[B" (.ref b) ∧ Arv Z h b k .byte (0 : Int32) [] (.int 0)
set_option maxRecDepth 65536 in
set_option maxHeartbeats 40000000 in
theorem rmSi2_e (l : Launch) (Z : State) (av0 : Array Value) (hw : ∀ d ∈ tables_1, d.before av0 Z = true) (ws : List Jvm.Cond) (a0 : Addr) (a1 : Addr) (ka : ClassId) (h0 : Heap) (n0 : Nat) (Z0 : n0 ≤ h0.size) (hE : Exa Z h0 a0 "java/lang/String") (hV : Fld Z h0 a0 "java/lang/String" "value" "[B" .null) (hC : Fld Z h0 a0 "java/lang/String" "coder" "B" (.int (0 : Int32))) (hge : n0 ≤ a0) (hA : Arv Z h0 a1 ka .char (0 : Int32) [] (.int (0 : Int32))) (hkp : ∀ (b : Addr) (cl : Cell), Z.heap[b]? = some cl → h0[b]? = some cl) (hcH : Jvm.Lit.constHeld Z "java/lang/String" 7) (hcw : Jvm.Lit.compactW.before av0 Z = true) :
    MetFree l mN4 (head1 (Jvm.Cond.code mN4 jdk_42_method_3_code 2 none :: ws) ({ frames := 2, cells := 2, slots := 4, locals := 29 } : Room)) (fun aU U => aU = #[(.ref a0), (.ref a1)] ∧ Z.Warmed39 U.vm ∧ U.heap = h0 ∧ IB Z U.vm []) (fun _ _ _ _ _ => True) (fun _ U oU U' => ∃ vU LU, oU = .returned vU ∧ QrmSi2_e Z a0 a1 ka h0 n0 vU U'.heap LU ∧ ReturnedEndW U oU U' LU ({ frames := 2, cells := 2, slots := 4, locals := 29 } : Room).cells ({ frames := 2, cells := 2, slots := 4, locals := 29 } : Room).slots) := by
  refine MetFree.of_bodySF (plainFor_of_name pn_String) hisR ?_
  intro p e s m args below meth c s₁ Bd hml0 hP hK
  obtain ⟨rfl, hZ, hh, hI⟩ := hP
  have hx := Bd.exec
  have hby := Bd.bytes
  have hml : c.maxLocals = 2 := hml0
  have hown : s.vm.findClass "java/lang/String" = some m.cls := findClass_of_methodNamed Bd.named
  have hnm := (name_of_methodNamed Bd.named Bd.method).1
  have X0 : Stand p l e ({ frames := 2, cells := 2, slots := 4, locals := 29 } : Room) s m #[(.ref a0), (.ref a1)] below meth c s₁ [] 0 0 := Stand.of_body Bd
  have e0 : s₁.heap = h0 := by rw [← hh, Bd.state]; rfl
  have N0 := Fr.nil n0
  have pre0 : ∀ t, Steps p.tables e below (s₁.setTop (mkF m 0 #[rv a0, rv a1] [])) t → Steps p.tables e below (s₁.setTop (entryFrame m #[(.ref a0), (.ref a1)] 2)) t := fun t k => castTop (by first | (simp [entryFrame, mkF, argsToLocals, Value.category]; done) | rfl) k
  obtain ⟨cl1, Ar1, qk1, Sz1, Ng1, Hs1, Gs1⟩ := id hA
  have S3 : ∀ t, Steps p.tables e below (s₁.setTop (mkF m 6 #[rv a0, rv a1] [.null, (.int (0 : Int32)), (.int (0 : Int32)), (.ref a1), (.ref a0)])) t → Steps p.tables e below (s₁.setTop (mkF m 0 #[rv a0, rv a1] [])) t := fun t k => id (by
    show Steps p.tables e below (s₁.setTop (mkF m 0 #[rv a0, rv a1] [])) _
    refine XS.aloadN X0.here hx rfl (hb hby d1_0) rfl rfl ?_
    refine XS.aloadN X0.here hx rfl (hb hby d1_1) rfl rfl ?_
    refine XT.iconstV X0.here hx rfl (0 : Int32) (hb hby d1_2) (by decide) ?_
    refine XS.aloadN X0.here hx rfl (hb hby d1_3) rfl rfl ?_
    refine X0.arraylength hx (by rw [e0]; exact Ar1.1) (State.isArrayOf_alike hZ.alike Ar1.2.1) (g := (mkF m 4 #[rv a0, rv a1] [(.ref a1), (.int (0 : Int32)), (.ref a1), (.ref a0)])) rfl rfl (hb hby d1_4) _ ?_
    rw [len_of Sz1 Ng1]
    refine XS.aconstNull X0.here hx rfl (hb hby d1_5) ?_
    show Steps p.tables e below (s₁.setTop (mkF m 6 #[rv a0, rv a1] [.null, (.int (0 : Int32)), (.int (0 : Int32)), (.ref a1), (.ref a0)])) _
    exact k)
  obtain ⟨_, T2, Lc2, X2, hS2, hQ2, st2⟩ := own_specialI (W := 0) (y := mN3) X0 hx hZ rfl hown (hw _ (List.mem_of_getElem? (i := 8) rfl)) (hw _ (List.mem_of_getElem? (i := 9) rfl)) (hw _ (List.mem_of_getElem? (i := 11) rfl)) (hw _ (List.mem_of_getElem? (i := 3) rfl)) (by decide) (rmSi4_e l Z av0 hw [] a0 a1 ka h0 n0 Z0 hE hV hC hge hA hkp hcH hcw) (by decide) (by decide) hI (g := (mkF m 6 #[rv a0, rv a1] [.null, (.int (0 : Int32)), (.int (0 : Int32)), (.ref a1), (.ref a0)])) rfl (by rw [hml]; rfl) (a := a0) (argsL := [(.ref a1), (.int (0 : Int32)), (.int (0 : Int32)), .null]) (rest := []) (lenOf pd__CIILjava_lang_Void_V rfl) rfl (by show 2 * 0 + _ ≤ _; exact Nat.le_of_eq rfl) (hb hby d1_6) rfl e0 (by decide : 0 + 2 ≤ _) (by decide : 0 + 4 ≤ _)
  have hZ := State.Warmed39.trans (t := s) hZ hS2.1
  have hown : (s.setVm T2.vm).vm.findClass "java/lang/String" = some m.cls := by rw [show (s.setVm T2.vm).vm = T2.vm from rfl, hS2.1.alike.findClass]; exact hown
  obtain ⟨rfl, N2q, K2, FC2, b2, kb2, FV2, V2⟩ := hQ2
  have N2 := Fr.app N0 N2q
  have e2 : T2.heap = T2.heap := rfl
  have Zk2 : n0 ≤ T2.heap.size := Nat.le_trans Z0 K2.1
  have Kk2 : Keep h0 T2.heap [a0] := (Keep.refl h0 [a0]).trans K2 (allS (Or.inl (List.mem_of_getElem? (i := 0) rfl)) all0)
  have S4 : ∀ t, Steps p.tables e below (T2.setTop (mkF m 9 #[rv a0, rv a1] [])) t → Steps p.tables e below (s₁.setTop (mkF m 0 #[rv a0, rv a1] [])) t := fun t k => S3 t (by
    show Steps p.tables e below (s₁.setTop (mkF m 6 #[rv a0, rv a1] [.null, (.int (0 : Int32)), (.int (0 : Int32)), (.ref a1), (.ref a0)])) _
    refine st2 _ ?_
    exact k)
  obtain ⟨fs, hr, hrun, hended, hEnd⟩ := X2.leaveW hS2 (by rw [e2]; exact (Nat.le_refl _)) (v := none) (fun _ => rfl)
  refine ⟨_, _, pre0 _ (S4 _ ?_), hrun, hended, _, _, rfl, ?_, hEnd.1, hEnd.2.1, hEnd.2.2.1, hEnd.2.2.2.mono (by decide) (by decide)⟩
  · exact X2.returnOut hx Bd.returns (hb hby d1_9) hr
  · show QrmSi2_e Z a0 a1 ka h0 n0 _ T2.heap _
    rw [e2]
    exact ⟨rfl, N2, Kk2, FC2, b2, _, FV2, V2⟩
theorem d7_0 : decode prog_2_method_1_code 0 = .ok (.aload_n 0, 1) := by decide +kernel
theorem d7_1 : decode prog_2_method_1_code 1 = .ok (.invokespecial 1, 3) := by decide +kernel
theorem d7_4 : decode prog_2_method_1_code 4 = .ok (.aload_n 0, 1) := by decide +kernel
theorem d7_5 : decode prog_2_method_1_code 5 = .ok (.aload_n 1, 1) := by decide +kernel
theorem d7_6 : decode prog_2_method_1_code 6 = .ok (.putfield 7, 3) := by decide +kernel
theorem d7_9 : decode prog_2_method_1_code 9 = .ok (.return_, 1) := by decide +kernel
theorem pn_OptionReader : plainName "com/example/steady_courier/steadycourier/OptionReader" = true := by first | (simp [plainName, overriddenIn]; done) | decide +kernel
def QrmInit (Z : State) (a0 : Addr) (a1 : Addr) (h0 : Heap) (n0 : Nat) (v : Option Value) (h : Heap) (L : List Loc) : Prop := v = none ∧ Fr n0 L ∧ Keep h0 h [a0] ∧ Fld Z h a0 "com/example/steady_courier/steadycourier/OptionReader" "arguments" "[Ljava/lang/String;" (.ref a1) ∧ Fld Z h a0 "com/example/steady_courier/steadycourier/OptionReader" "next" "I" (.int (0 : Int32))
set_option maxRecDepth 65536 in
set_option maxHeartbeats 40000000 in
theorem rmInit (l : Launch) (Z : State) (av0 : Array Value) (hw : ∀ d ∈ tables_1, d.before av0 Z = true) (ws : List Jvm.Cond) (a0 : Addr) (a1 : Addr) (h0 : Heap) (n0 : Nat) (Z0 : n0 ≤ h0.size) (hE : Exa Z h0 a0 "com/example/steady_courier/steadycourier/OptionReader") (hF : Fld Z h0 a0 "com/example/steady_courier/steadycourier/OptionReader" "arguments" "[Ljava/lang/String;" .null) (hN : Fld Z h0 a0 "com/example/steady_courier/steadycourier/OptionReader" "next" "I" (.int (0 : Int32))) (hge : n0 ≤ a0) :
    MetFree l mN5 (head1 (Jvm.Cond.code mN5 prog_2_method_1_code 2 none :: ws) ({ frames := 1, cells := 0, slots := 0, locals := 12 } : Room)) (fun aU U => aU = #[(.ref a0), (.ref a1)] ∧ Z.Warmed39 U.vm ∧ U.heap = h0) (fun _ _ _ _ _ => True) (fun _ U oU U' => ∃ vU LU, oU = .returned vU ∧ QrmInit Z a0 a1 h0 n0 vU U'.heap LU ∧ FrameEnd U oU U' LU ({ frames := 1, cells := 0, slots := 0, locals := 12 } : Room).cells ({ frames := 1, cells := 0, slots := 0, locals := 12 } : Room).slots) := by
  refine MetFree.of_bodySF (plainFor_of_name pn_OptionReader) hisR ?_
  intro p e s m args below meth c s₁ Bd hml0 hP hK
  obtain ⟨rfl, hZ, hh⟩ := hP
  have hx := Bd.exec
  have hby := Bd.bytes
  have hml : c.maxLocals = 2 := hml0
  have hown : s.vm.findClass "com/example/steady_courier/steadycourier/OptionReader" = some m.cls := findClass_of_methodNamed Bd.named
  have hnm := (name_of_methodNamed Bd.named Bd.method).1
  have X0 : Stand p l e ({ frames := 1, cells := 0, slots := 0, locals := 12 } : Room) s m #[(.ref a0), (.ref a1)] below meth c s₁ [] 0 0 := Stand.of_body Bd
  have e0 : s₁.heap = h0 := by rw [← hh, Bd.state]; rfl
  have N0 := Fr.nil n0
  have pre0 : ∀ t, Steps p.tables e below (s₁.setTop (mkF m 0 #[rv a0, rv a1] [])) t → Steps p.tables e below (s₁.setTop (entryFrame m #[(.ref a0), (.ref a1)] 2)) t := fun t k => castTop (by first | (simp [entryFrame, mkF, argsToLocals, Value.category]; done) | rfl) k
  obtain ⟨T1, X1, e1, st1⟩ := initO X0 hx hZ hown (hw _ (List.mem_of_getElem? (i := 38) rfl)) (hw _ (List.mem_of_getElem? (i := 13) rfl)) (hw _ (List.mem_of_getElem? (i := 14) rfl)) e0 (g := (mkF m 1 #[rv a0, rv a1] [(.ref a0)])) rfl (by rw [hml]; rfl) rfl (hb hby d7_1) (by decide) (W := 0) (by show 2 * 0 + _ ≤ _; exact Nat.le_of_eq rfl) (by decide)
  obtain ⟨T2, h2, X2, e2, W2, st2⟩ := putF X1 hx hZ hown (host := "") (Or.inl (hw _ (List.mem_of_getElem? (i := 39) rfl))) Via.refl e1 hF hE (Or.inr ⟨(hw _ (List.mem_of_getElem? (i := 40) rfl)), rfl, hnm⟩) (hw _ (List.mem_of_getElem? (i := 33) rfl)) (ty := (.array (.object "java/lang/String"))) (by decide) rfl rfl (g := (mkF m 6 #[rv a0, rv a1] [(.ref a1), (.ref a0)])) rfl rfl (hb hby d7_6)
  have N2 := Fr.snoc X2 N0 hge
  have Z2 : n0 ≤ h2.size := Nat.le_trans Z0 (Nat.le_of_eq W2.size.symm)
  have K2 : Keep h0 h2 [a0] := (Keep.refl h0 [a0]).wr W2 (Or.inl (List.mem_of_getElem? (i := 0) rfl))
  have Fw2 := hF.same W2
  have S3 : ∀ t, Steps p.tables e below (T2.setTop (mkF m 9 #[rv a0, rv a1] [])) t → Steps p.tables e below (s₁.setTop (mkF m 0 #[rv a0, rv a1] [])) t := fun t k => id (by
    show Steps p.tables e below (s₁.setTop (mkF m 0 #[rv a0, rv a1] [])) _
    refine XS.aloadN X0.here hx rfl (hb hby d7_0) rfl rfl ?_
    refine st1 _ ?_
    refine XS.aloadN X1.here hx rfl (hb hby d7_4) rfl rfl ?_
    refine XS.aloadN X1.here hx rfl (hb hby d7_5) rfl rfl ?_
    refine st2 _ ?_
    exact k)
  obtain ⟨fs, hr, hrun, hended, hW, hsame⟩ := X2.leave (v := none) (fun _ => rfl)
  refine ⟨_, _, pre0 _ (S3 _ ?_), hrun, hended, _, _, rfl, ?_, ⟨_, rfl⟩, hW, hsame.mono (by decide) (by decide)⟩
  · exact X2.returnOut hx Bd.returns (hb hby d7_9) hr
  have f4 := (hN.other W2 (Or.inr (slot_ne (Or.inl (hw _ (List.mem_of_getElem? (i := 47) rfl))) (Or.inr (hw _ (List.mem_of_getElem? (i := 40) rfl))) (by decide) (t := .int) (t' := (.array (.object "java/lang/String"))) (by decide) (by decide))))
  · show QrmInit Z a0 a1 h0 n0 _ T2.heap _
    rw [e2]
    exact ⟨rfl, N2, K2, Fw2, f4⟩
theorem d8_0 : decode prog_2_method_2_code 0 = .ok (.aload_n 0, 1) := by decide +kernel
theorem d8_1 : decode prog_2_method_2_code 1 = .ok (.getfield 13, 3) := by decide +kernel
theorem d8_4 : decode prog_2_method_2_code 4 = .ok (.aload_n 0, 1) := by decide +kernel
theorem d8_5 : decode prog_2_method_2_code 5 = .ok (.getfield 7, 3) := by decide +kernel
theorem d8_8 : decode prog_2_method_2_code 8 = .ok (.arraylength, 1) := by decide +kernel
theorem d8_9 : decode prog_2_method_2_code 9 = .ok (.if_icmp .ge 7, 3) := by decide +kernel
theorem d8_12 : decode prog_2_method_2_code 12 = .ok (.iconst 1, 1) := by decide +kernel
theorem d8_13 : decode prog_2_method_2_code 13 = .ok (.goto 4, 3) := by decide +kernel
theorem d8_16 : decode prog_2_method_2_code 16 = .ok (.iconst 0, 1) := by decide +kernel
theorem d8_17 : decode prog_2_method_2_code 17 = .ok (.ireturn, 1) := by decide +kernel
def QrmHas (Z : State) (a0 : Addr) (ar : Addr) (kk : ClassId) (z : Int32) (vs : List Value) (wn : Int32) (h0 : Heap) (n0 : Nat) (v : Option Value) (h : Heap) (L : List Loc) : Prop := v = some (.int (own_lt wn z)) ∧ Fr n0 L ∧ h = h0
set_option maxRecDepth 65536 in
set_option maxHeartbeats 40000000 in
theorem rmHas (l : Launch) (Z : State) (av0 : Array Value) (hw : ∀ d ∈ tables_1, d.before av0 Z = true) (ws : List Jvm.Cond) (a0 : Addr) (ar : Addr) (kk : ClassId) (z : Int32) (vs : List Value) (wn : Int32) (h0 : Heap) (n0 : Nat) (Z0 : n0 ≤ h0.size) (hF : Fld Z h0 a0 "com/example/steady_courier/steadycourier/OptionReader" "arguments" "[Ljava/lang/String;" (.ref ar)) (hN : Fld Z h0 a0 "com/example/steady_courier/steadycourier/OptionReader" "next" "I" (.int wn)) (hA : Arv Z h0 ar kk (.object "java/lang/String") z vs .null) :
    MetFree l mN6 (head1 (Jvm.Cond.code mN6 prog_2_method_2_code 1 (some .boolean) :: ws) ({ frames := 0, cells := 0, slots := 0, locals := 0 } : Room)) (fun aU U => aU = #[(.ref a0)] ∧ Z.Warmed39 U.vm ∧ U.heap = h0) (fun _ _ _ _ _ => True) (fun _ U oU U' => ∃ vU LU, oU = .returned vU ∧ QrmHas Z a0 ar kk z vs wn h0 n0 vU U'.heap LU ∧ FrameEnd U oU U' LU ({ frames := 0, cells := 0, slots := 0, locals := 0 } : Room).cells ({ frames := 0, cells := 0, slots := 0, locals := 0 } : Room).slots) := by
  refine MetFree.of_bodySF (plainFor_of_name pn_OptionReader) hisR ?_
  intro p e s m args below meth c s₁ Bd hml0 hP hK
  obtain ⟨rfl, hZ, hh⟩ := hP
  have hx := Bd.exec
  have hby := Bd.bytes
  have hml : c.maxLocals = 1 := hml0
  have hown : s.vm.findClass "com/example/steady_courier/steadycourier/OptionReader" = some m.cls := findClass_of_methodNamed Bd.named
  have hnm := (name_of_methodNamed Bd.named Bd.method).1
  have X0 : Stand p l e ({ frames := 0, cells := 0, slots := 0, locals := 0 } : Room) s m #[(.ref a0)] below meth c s₁ [] 0 0 := Stand.of_body Bd
  have e0 : s₁.heap = h0 := by rw [← hh, Bd.state]; rfl
  have N0 := Fr.nil n0
  have pre0 : ∀ t, Steps p.tables e below (s₁.setTop (mkF m 0 #[rv a0] [])) t → Steps p.tables e below (s₁.setTop (entryFrame m #[(.ref a0)] 1)) t := fun t k => castTop (by first | (simp [entryFrame, mkF, argsToLocals, Value.category]; done) | rfl) k
  obtain ⟨T1, X1, e1, st1⟩ := getF X0 hx hZ hown (host := "") (Or.inl (hw _ (List.mem_of_getElem? (i := 46) rfl))) Via.refl e0 hN (g := (mkF m 1 #[rv a0] [(.ref a0)])) rfl rfl (hb hby d8_1)
  obtain ⟨T2, X2, e2, st2⟩ := getF X1 hx hZ hown (host := "") (Or.inl (hw _ (List.mem_of_getElem? (i := 39) rfl))) Via.refl e1 hF (g := (mkF m 5 #[rv a0] [(.ref a0), (.int wn)])) rfl rfl (hb hby d8_5)
  obtain ⟨cl3, Ar3, qk3, Sz3, Ng3, Hs3, Gs3⟩ := id hA
  have S4 : ∀ t, Steps p.tables e below (T2.setTop (mkF m 9 #[rv a0] [(.int z), (.int wn)])) t → Steps p.tables e below (s₁.setTop (mkF m 0 #[rv a0] [])) t := fun t k => id (by
    show Steps p.tables e below (s₁.setTop (mkF m 0 #[rv a0] [])) _
    refine XS.aloadN X0.here hx rfl (hb hby d8_0) rfl rfl ?_
    refine st1 _ ?_
    refine XS.aloadN X1.here hx rfl (hb hby d8_4) rfl rfl ?_
    refine st2 _ ?_
    refine X2.arraylength hx (by rw [e2]; exact Ar3.1) (State.isArrayOf_alike hZ.alike Ar3.2.1) (g := (mkF m 8 #[rv a0] [(.ref ar), (.int wn)])) rfl rfl (hb hby d8_8) _ ?_
    rw [len_of Sz3 Ng3]
    exact k)
  by_cases hc9_5 : wn < z
  · have S6 : ∀ t, Steps p.tables e below (T2.setTop (mkF m 17 #[rv a0] [(.int (1 : Int32))])) t → Steps p.tables e below (s₁.setTop (mkF m 0 #[rv a0] [])) t := fun t k => S4 t (by
      show Steps p.tables e below (T2.setTop (mkF m 9 #[rv a0] [(.int z), (.int wn)])) _
      refine XS.icmpNo X2.here hx rfl (hb hby d8_9) rfl (XT.ii_ge_f hc9_5) ?_
      show Steps p.tables e below (T2.setTop (mkF m 12 #[rv a0] [])) _
      refine XT.iconstV X2.here hx rfl (1 : Int32) (hb hby d8_12) (by decide) ?_
      refine XS.goto X2.here hx rfl (pc0 := 13) (pc' := 17) rfl (hb hby d8_13) (by decide) (by decide) ?_
      exact k)
    obtain ⟨fs, hr, hrun, hended, hW, hsame⟩ := X2.leave (v := some (.int (1 : Int32))) (fun h => by rw [Bd.returns] at h; cases h)
    refine ⟨_, _, pre0 _ (S6 _ ?_), hrun, hended, _, _, rfl, ?_, ⟨_, rfl⟩, hW, hsame.mono (by decide) (by decide)⟩
    · exact retN X2 hx (t := .boolean) Bd.returns (by simp) (hb hby d8_17) hr
    · show QrmHas Z a0 ar kk z vs wn h0 n0 _ T2.heap _
      rw [e2]
      exact ⟨by simp [own_lt, hc9_5], N0, rfl⟩
  · have S7 : ∀ t, Steps p.tables e below (T2.setTop (mkF m 17 #[rv a0] [(.int (0 : Int32))])) t → Steps p.tables e below (s₁.setTop (mkF m 0 #[rv a0] [])) t := fun t k => S4 t (by
      show Steps p.tables e below (T2.setTop (mkF m 9 #[rv a0] [(.int z), (.int wn)])) _
      refine XS.icmpYes X2.here hx rfl (pc0 := 9) (pc' := 16) rfl (hb hby d8_9) rfl (XT.ii_ge_t hc9_5) (by decide) (by decide) ?_
      show Steps p.tables e below (T2.setTop (mkF m 16 #[rv a0] [])) _
      refine XT.iconstV X2.here hx rfl (0 : Int32) (hb hby d8_16) (by decide) ?_
      exact k)
    obtain ⟨fs, hr, hrun, hended, hW, hsame⟩ := X2.leave (v := some (.int (0 : Int32))) (fun h => by rw [Bd.returns] at h; cases h)
    refine ⟨_, _, pre0 _ (S7 _ ?_), hrun, hended, _, _, rfl, ?_, ⟨_, rfl⟩, hW, hsame.mono (by decide) (by decide)⟩
    · exact retN X2 hx (t := .boolean) Bd.returns (by simp) (hb hby d8_17) hr
    · show QrmHas Z a0 ar kk z vs wn h0 n0 _ T2.heap _
      rw [e2]
      exact ⟨by simp [own_lt, hc9_5], N0, rfl⟩
theorem d9_0 : decode prog_2_method_3_code 0 = .ok (.aload_n 0, 1) := by decide +kernel
theorem d9_1 : decode prog_2_method_3_code 1 = .ok (.getfield 7, 3) := by decide +kernel
theorem d9_4 : decode prog_2_method_3_code 4 = .ok (.aload_n 0, 1) := by decide +kernel
theorem d9_5 : decode prog_2_method_3_code 5 = .ok (.dup, 1) := by decide +kernel
theorem d9_6 : decode prog_2_method_3_code 6 = .ok (.getfield 13, 3) := by decide +kernel
theorem d9_9 : decode prog_2_method_3_code 9 = .ok (.dup_x1, 1) := by decide +kernel
theorem d9_10 : decode prog_2_method_3_code 10 = .ok (.iconst 1, 1) := by decide +kernel
theorem d9_11 : decode prog_2_method_3_code 11 = .ok (.iadd, 1) := by decide +kernel
theorem d9_12 : decode prog_2_method_3_code 12 = .ok (.putfield 13, 3) := by decide +kernel
theorem d9_15 : decode prog_2_method_3_code 15 = .ok (.aaload, 1) := by decide +kernel
theorem d9_16 : decode prog_2_method_3_code 16 = .ok (.areturn, 1) := by decide +kernel
def QrmOpt (Z : State) (a0 : Addr) (ar : Addr) (kk : ClassId) (z : Int32) (vs : List Value) (wn : Int32) (r : Addr) (h0 : Heap) (n0 : Nat) (v : Option Value) (h : Heap) (L : List Loc) : Prop := v = some (.ref r) ∧ Fr n0 L ∧ Keep h0 h [a0] ∧ Fld Z h a0 "com/example/steady_courier/steadycourier/OptionReader" "next" "I" (.int (wn + (1 : Int32))) ∧ Fld Z h a0 "com/example/steady_courier/steadycourier/OptionReader" "arguments" "[Ljava/lang/String;" (.ref ar)
set_option maxRecDepth 65536 in
set_option maxHeartbeats 40000000 in
theorem rmOpt (l : Launch) (Z : State) (av0 : Array Value) (hw : ∀ d ∈ tables_1, d.before av0 Z = true) (ws : List Jvm.Cond) (a0 : Addr) (ar : Addr) (kk : ClassId) (z : Int32) (vs : List Value) (wn : Int32) (r : Addr) (h0 : Heap) (n0 : Nat) (Z0 : n0 ≤ h0.size) (hF : Fld Z h0 a0 "com/example/steady_courier/steadycourier/OptionReader" "arguments" "[Ljava/lang/String;" (.ref ar)) (hN : Fld Z h0 a0 "com/example/steady_courier/steadycourier/OptionReader" "next" "I" (.int wn)) (hA : Arv Z h0 ar kk (.object "java/lang/String") z vs .null) (hE : Exa Z h0 a0 "com/example/steady_courier/steadycourier/OptionReader") (hge : n0 ≤ a0) (hne : a0 ≠ ar) (hin : ¬ wn < 0 ∧ wn < z) (hat : vs.getD wn.toNatClampNeg .null = .ref r) :
    MetFree l mN7 (head1 (Jvm.Cond.code mN7 prog_2_method_3_code 1 (some (.object "java/lang/String")) :: ws) ({ frames := 0, cells := 0, slots := 0, locals := 0 } : Room)) (fun aU U => aU = #[(.ref a0)] ∧ Z.Warmed39 U.vm ∧ U.heap = h0) (fun _ _ _ _ _ => True) (fun _ U oU U' => ∃ vU LU, oU = .returned vU ∧ QrmOpt Z a0 ar kk z vs wn r h0 n0 vU U'.heap LU ∧ FrameEnd U oU U' LU ({ frames := 0, cells := 0, slots := 0, locals := 0 } : Room).cells ({ frames := 0, cells := 0, slots := 0, locals := 0 } : Room).slots) := by
  refine MetFree.of_bodySF (plainFor_of_name pn_OptionReader) hisR ?_
  intro p e s m args below meth c s₁ Bd hml0 hP hK
  obtain ⟨rfl, hZ, hh⟩ := hP
  have hx := Bd.exec
  have hby := Bd.bytes
  have hml : c.maxLocals = 1 := hml0
  have hown : s.vm.findClass "com/example/steady_courier/steadycourier/OptionReader" = some m.cls := findClass_of_methodNamed Bd.named
  have hnm := (name_of_methodNamed Bd.named Bd.method).1
  have X0 : Stand p l e ({ frames := 0, cells := 0, slots := 0, locals := 0 } : Room) s m #[(.ref a0)] below meth c s₁ [] 0 0 := Stand.of_body Bd
  have e0 : s₁.heap = h0 := by rw [← hh, Bd.state]; rfl
  have N0 := Fr.nil n0
  have pre0 : ∀ t, Steps p.tables e below (s₁.setTop (mkF m 0 #[rv a0] [])) t → Steps p.tables e below (s₁.setTop (entryFrame m #[(.ref a0)] 1)) t := fun t k => castTop (by first | (simp [entryFrame, mkF, argsToLocals, Value.category]; done) | rfl) k
  obtain ⟨T1, X1, e1, st1⟩ := getF X0 hx hZ hown (host := "") (Or.inl (hw _ (List.mem_of_getElem? (i := 39) rfl))) Via.refl e0 hF (g := (mkF m 1 #[rv a0] [(.ref a0)])) rfl rfl (hb hby d9_1)
  obtain ⟨T2, X2, e2, st2⟩ := getF X1 hx hZ hown (host := "") (Or.inl (hw _ (List.mem_of_getElem? (i := 46) rfl))) Via.refl e1 hN (g := (mkF m 6 #[rv a0] [(.ref a0), (.ref a0), (.ref ar)])) rfl rfl (hb hby d9_6)
  obtain ⟨T3, h3, X3, e3, W3, st3⟩ := putF X2 hx hZ hown (host := "") (Or.inl (hw _ (List.mem_of_getElem? (i := 46) rfl))) Via.refl e2 hN hE (Or.inl (hw _ (List.mem_of_getElem? (i := 47) rfl))) (hw _ (List.mem_of_getElem? (i := 33) rfl)) (ty := .int) (by decide) rfl rfl (g := (mkF m 12 #[rv a0] [(.int (wn + (1 : Int32))), (.ref a0), (.int wn), (.ref ar)])) rfl rfl (hb hby d9_12)
  have N3 := Fr.snoc X3 N0 hge
  have Z3 : n0 ≤ h3.size := Nat.le_trans Z0 (Nat.le_of_eq W3.size.symm)
  have K3 : Keep h0 h3 [a0] := (Keep.refl h0 [a0]).wr W3 (Or.inl (List.mem_of_getElem? (i := 0) rfl))
  have Fw3 := hN.same W3
  have f4 := (hA.other W3 (Ne.symm hne))
  obtain ⟨cl5, Ar5, qk5, Sz5, Ng5, Hs5, Gs5⟩ := id f4
  have hin5 : ¬ (wn < 0 ∨ cl5.slots.size ≤ (wn).toNatClampNeg) := inb_of Sz5 hin
  have hat5 : cl5.slots[(wn).toNatClampNeg]? = some (.ref r) := Hs5.at hin5 hat
  have S6 : ∀ t, Steps p.tables e below (T3.setTop (mkF m 16 #[rv a0] [(.ref r)])) t → Steps p.tables e below (s₁.setTop (mkF m 0 #[rv a0] [])) t := fun t k => id (by
    show Steps p.tables e below (s₁.setTop (mkF m 0 #[rv a0] [])) _
    refine XS.aloadN X0.here hx rfl (hb hby d9_0) rfl rfl ?_
    refine st1 _ ?_
    refine XS.aloadN X1.here hx rfl (hb hby d9_4) rfl rfl ?_
    refine XS.dup X1.here hx rfl (hb hby d9_5) rfl rfl ?_
    refine st2 _ ?_
    refine XT.dupX1 X2.here hx rfl (hb hby d9_9) rfl rfl rfl ?_
    show Steps p.tables e below (T2.setTop (mkF m 10 #[rv a0] [(.int wn), (.ref a0), (.int wn), (.ref ar)])) _
    refine XT.iconstV X2.here hx rfl (1 : Int32) (hb hby d9_10) (by decide) ?_
    refine XS.iadd X2.here hx rfl (hb hby d9_11) rfl ?_
    refine st3 _ ?_
    refine X3.aaload hx (j := wn) (v := (.ref r)) (by rw [e3]; exact Ar5.1) (State.isArrayOf_alike hZ.alike Ar5.2.1) rfl Ar5.2.2 hin5 hat5 (g := (mkF m 15 #[rv a0] [(.int wn), (.ref ar)])) rfl rfl (hb hby d9_15) _ ?_
    exact k)
  obtain ⟨fs, hr, hrun, hended, hW, hsame⟩ := X3.leave (v := some (.ref r)) (fun h => by rw [Bd.returns] at h; cases h)
  refine ⟨_, _, pre0 _ (S6 _ ?_), hrun, hended, _, _, rfl, ?_, ⟨_, rfl⟩, hW, hsame.mono (by decide) (by decide)⟩
  · jvm_step X3.here [X3.here.top, hx, (hb hby d9_16), X3.method', Bd.returns, Value.isRef, FieldType.isReference]
    first | (intro acts; rw [hr _ acts rfl rfl rfl]) | rw [hr _ _ rfl rfl rfl]
    exact Steps.refl _
  have f7 := (hF.other W3 (Or.inr (slot_ne (Or.inr (hw _ (List.mem_of_getElem? (i := 40) rfl))) (Or.inl (hw _ (List.mem_of_getElem? (i := 47) rfl))) (by decide) (t := (.array (.object "java/lang/String"))) (t' := .int) (by decide) (by decide))))
  · show QrmOpt Z a0 ar kk z vs wn r h0 n0 _ T3.heap _
    rw [e3]
    exact ⟨rfl, N3, K3, Fw3, f7⟩
theorem d12_0 : decode jdk_42_method_55_code 0 = .ok (.aload_n 0, 1) := by decide +kernel
theorem d12_1 : decode jdk_42_method_55_code 1 = .ok (.getfield 9, 3) := by decide +kernel
theorem d12_4 : decode jdk_42_method_55_code 4 = .ok (.arraylength, 1) := by decide +kernel
theorem d12_5 : decode jdk_42_method_55_code 5 = .ok (.ifCond .ne 7, 3) := by decide +kernel
theorem d12_12 : decode jdk_42_method_55_code 12 = .ok (.iconst 0, 1) := by decide +kernel
theorem d12_13 : decode jdk_42_method_55_code 13 = .ok (.ireturn, 1) := by decide +kernel
def QrmEmp (Z : State) (a0 : Addr) (ab : Addr) (kb : ClassId) (zb : Int32) (vb : List Value) (h0 : Heap) (n0 : Nat) (v : Option Value) (h : Heap) (L : List Loc) : Prop := v = some (.int 0) ∧ Fr n0 L ∧ h = h0
set_option maxRecDepth 65536 in
set_option maxHeartbeats 40000000 in
theorem rmEmp (l : Launch) (Z : State) (av0 : Array Value) (hw : ∀ d ∈ tables_1, d.before av0 Z = true) (ws : List Jvm.Cond) (a0 : Addr) (ab : Addr) (kb : ClassId) (zb : Int32) (vb : List Value) (h0 : Heap) (n0 : Nat) (Z0 : n0 ≤ h0.size) (hV : Fld Z h0 a0 "java/lang/String" "value" "[B" (.ref ab)) (hB : Arv Z h0 ab kb .byte zb vb (.int (0 : Int32))) (hz : ¬ zb = (0 : Int32)) :
    MetFree l mN8 (head1 (Jvm.Cond.code mN8 jdk_42_method_55_code 1 (some .boolean) :: ws) ({ frames := 0, cells := 0, slots := 0, locals := 0 } : Room)) (fun aU U => aU = #[(.ref a0)] ∧ Z.Warmed39 U.vm ∧ U.heap = h0) (fun _ _ _ _ _ => True) (fun _ U oU U' => ∃ vU LU, oU = .returned vU ∧ QrmEmp Z a0 ab kb zb vb h0 n0 vU U'.heap LU ∧ FrameEnd U oU U' LU ({ frames := 0, cells := 0, slots := 0, locals := 0 } : Room).cells ({ frames := 0, cells := 0, slots := 0, locals := 0 } : Room).slots) := by
  refine MetFree.of_bodySF (plainFor_of_name pn_String) hisR ?_
  intro p e s m args below meth c s₁ Bd hml0 hP hK
  obtain ⟨rfl, hZ, hh⟩ := hP
  have hx := Bd.exec
  have hby := Bd.bytes
  have hml : c.maxLocals = 1 := hml0
  have hown : s.vm.findClass "java/lang/String" = some m.cls := findClass_of_methodNamed Bd.named
  have hnm := (name_of_methodNamed Bd.named Bd.method).1
  have X0 : Stand p l e ({ frames := 0, cells := 0, slots := 0, locals := 0 } : Room) s m #[(.ref a0)] below meth c s₁ [] 0 0 := Stand.of_body Bd
  have e0 : s₁.heap = h0 := by rw [← hh, Bd.state]; rfl
  have N0 := Fr.nil n0
  have pre0 : ∀ t, Steps p.tables e below (s₁.setTop (mkF m 0 #[rv a0] [])) t → Steps p.tables e below (s₁.setTop (entryFrame m #[(.ref a0)] 1)) t := fun t k => castTop (by first | (simp [entryFrame, mkF, argsToLocals, Value.category]; done) | rfl) k
  obtain ⟨T1, X1, e1, st1⟩ := getF X0 hx hZ hown (host := "") (Or.inl (hw _ (List.mem_of_getElem? (i := 29) rfl))) Via.refl e0 hV (g := (mkF m 1 #[rv a0] [(.ref a0)])) rfl rfl (hb hby d12_1)
  obtain ⟨cl2, Ar2, qk2, Sz2, Ng2, Hs2, Gs2⟩ := id hB
  have S3 : ∀ t, Steps p.tables e below (T1.setTop (mkF m 13 #[rv a0] [(.int (0 : Int32))])) t → Steps p.tables e below (s₁.setTop (mkF m 0 #[rv a0] [])) t := fun t k => id (by
    show Steps p.tables e below (s₁.setTop (mkF m 0 #[rv a0] [])) _
    refine XS.aloadN X0.here hx rfl (hb hby d12_0) rfl rfl ?_
    refine st1 _ ?_
    refine X1.arraylength hx (by rw [e1]; exact Ar2.1) (State.isArrayOf_alike hZ.alike Ar2.2.1) (g := (mkF m 4 #[rv a0] [(.ref ab)])) rfl rfl (hb hby d12_4) _ ?_
    rw [len_of Sz2 Ng2]
    refine XS.ifYes X1.here hx rfl (pc0 := 5) (pc' := 12) rfl (hb hby d12_5) rfl (XT.i0_ne_t hz) (by decide) (by decide) ?_
    refine XT.iconstV X1.here hx rfl (0 : Int32) (hb hby d12_12) (by decide) ?_
    exact k)
  obtain ⟨fs, hr, hrun, hended, hW, hsame⟩ := X1.leave (v := some (.int (0 : Int32))) (fun h => by rw [Bd.returns] at h; cases h)
  refine ⟨_, _, pre0 _ (S3 _ ?_), hrun, hended, _, _, rfl, ?_, ⟨_, rfl⟩, hW, hsame.mono (by decide) (by decide)⟩
  · exact retN X1 hx (t := .boolean) Bd.returns (by simp) (hb hby d12_13) hr
  · show QrmEmp Z a0 ab kb zb vb h0 n0 _ T1.heap _
    rw [e1]
    exact ⟨rfl, N0, rfl⟩
theorem d10_0 : decode jdk_42_method_66_code 0 = .ok (.aload_n 0, 1) := by decide +kernel
theorem d10_1 : decode jdk_42_method_66_code 1 = .ok (.aload_n 1, 1) := by decide +kernel
theorem d10_2 : decode jdk_42_method_66_code 2 = .ok (.if_acmp .ne 5, 3) := by decide +kernel
theorem d10_5 : decode jdk_42_method_66_code 5 = .ok (.iconst 1, 1) := by decide +kernel
theorem d10_6 : decode jdk_42_method_66_code 6 = .ok (.ireturn, 1) := by decide +kernel
def QrmSame (Z : State) (a0 : Addr) (h0 : Heap) (n0 : Nat) (v : Option Value) (h : Heap) (L : List Loc) : Prop := v = some (.int 1) ∧ Fr n0 L ∧ h = h0
set_option maxRecDepth 65536 in
set_option maxHeartbeats 40000000 in
theorem rmSame (l : Launch) (Z : State) (av0 : Array Value) (hw : ∀ d ∈ tables_1, d.before av0 Z = true) (ws : List Jvm.Cond) (a0 : Addr) (h0 : Heap) (n0 : Nat) (Z0 : n0 ≤ h0.size)  :
    MetFree l mN9 (head1 (Jvm.Cond.code mN9 jdk_42_method_66_code 3 (some .boolean) :: ws) ({ frames := 0, cells := 0, slots := 0, locals := 0 } : Room)) (fun aU U => aU = #[(.ref a0), (.ref a0)] ∧ Z.Warmed39 U.vm ∧ U.heap = h0) (fun _ _ _ _ _ => True) (fun _ U oU U' => ∃ vU LU, oU = .returned vU ∧ QrmSame Z a0 h0 n0 vU U'.heap LU ∧ FrameEnd U oU U' LU ({ frames := 0, cells := 0, slots := 0, locals := 0 } : Room).cells ({ frames := 0, cells := 0, slots := 0, locals := 0 } : Room).slots) := by
  refine MetFree.of_bodySF (plainFor_of_name pn_String) hisR ?_
  intro p e s m args below meth c s₁ Bd hml0 hP hK
  obtain ⟨rfl, hZ, hh⟩ := hP
  have hx := Bd.exec
  have hby := Bd.bytes
  have hml : c.maxLocals = 3 := hml0
  have hown : s.vm.findClass "java/lang/String" = some m.cls := findClass_of_methodNamed Bd.named
  have hnm := (name_of_methodNamed Bd.named Bd.method).1
  have X0 : Stand p l e ({ frames := 0, cells := 0, slots := 0, locals := 0 } : Room) s m #[(.ref a0), (.ref a0)] below meth c s₁ [] 0 0 := Stand.of_body Bd
  have e0 : s₁.heap = h0 := by rw [← hh, Bd.state]; rfl
  have N0 := Fr.nil n0
  have pre0 : ∀ t, Steps p.tables e below (s₁.setTop (mkF m 0 #[rv a0, rv a0, .unset] [])) t → Steps p.tables e below (s₁.setTop (entryFrame m #[(.ref a0), (.ref a0)] 3)) t := fun t k => castTop (by first | (simp [entryFrame, mkF, argsToLocals, Value.category]; done) | rfl) k
  have S1 : ∀ t, Steps p.tables e below (s₁.setTop (mkF m 6 #[rv a0, rv a0, .unset] [(.int (1 : Int32))])) t → Steps p.tables e below (s₁.setTop (mkF m 0 #[rv a0, rv a0, .unset] [])) t := fun t k => id (by
    show Steps p.tables e below (s₁.setTop (mkF m 0 #[rv a0, rv a0, .unset] [])) _
    refine XS.aloadN X0.here hx rfl (hb hby d10_0) rfl rfl ?_
    refine XS.aloadN X0.here hx rfl (hb hby d10_1) rfl rfl ?_
    refine XT.acmpNo X0.here hx rfl (hb hby d10_2) rfl rfl rfl (XT.aa_ne_f rfl) ?_
    refine XT.iconstV X0.here hx rfl (1 : Int32) (hb hby d10_5) (by decide) ?_
    exact k)
  obtain ⟨fs, hr, hrun, hended, hW, hsame⟩ := X0.leave (v := some (.int (1 : Int32))) (fun h => by rw [Bd.returns] at h; cases h)
  refine ⟨_, _, pre0 _ (S1 _ ?_), hrun, hended, _, _, rfl, ?_, ⟨_, rfl⟩, hW, hsame.mono (by decide) (by decide)⟩
  · exact retN X0 hx (t := .boolean) Bd.returns (by simp) (hb hby d10_6) hr
  · show QrmSame Z a0 h0 n0 _ s₁.heap _
    rw [e0]
    exact ⟨rfl, N0, rfl⟩
theorem d11_0 : decode prog_2_method_4_code 0 = .ok (.aload_n 0, 1) := by decide +kernel
theorem d11_1 : decode prog_2_method_4_code 1 = .ok (.getfield 13, 3) := by decide +kernel
theorem d11_4 : decode prog_2_method_4_code 4 = .ok (.aload_n 0, 1) := by decide +kernel
theorem d11_5 : decode prog_2_method_4_code 5 = .ok (.getfield 7, 3) := by decide +kernel
theorem d11_8 : decode prog_2_method_4_code 8 = .ok (.arraylength, 1) := by decide +kernel
theorem d11_9 : decode prog_2_method_4_code 9 = .ok (.if_icmp .ne 17, 3) := by decide +kernel
theorem d11_26 : decode prog_2_method_4_code 26 = .ok (.aload_n 0, 1) := by decide +kernel
theorem d11_27 : decode prog_2_method_4_code 27 = .ok (.getfield 7, 3) := by decide +kernel
theorem d11_30 : decode prog_2_method_4_code 30 = .ok (.aload_n 0, 1) := by decide +kernel
theorem d11_31 : decode prog_2_method_4_code 31 = .ok (.dup, 1) := by decide +kernel
theorem d11_32 : decode prog_2_method_4_code 32 = .ok (.getfield 13, 3) := by decide +kernel
theorem d11_35 : decode prog_2_method_4_code 35 = .ok (.dup_x1, 1) := by decide +kernel
theorem d11_36 : decode prog_2_method_4_code 36 = .ok (.iconst 1, 1) := by decide +kernel
theorem d11_37 : decode prog_2_method_4_code 37 = .ok (.iadd, 1) := by decide +kernel
theorem d11_38 : decode prog_2_method_4_code 38 = .ok (.putfield 13, 3) := by decide +kernel
theorem d11_41 : decode prog_2_method_4_code 41 = .ok (.aaload, 1) := by decide +kernel
theorem d11_42 : decode prog_2_method_4_code 42 = .ok (.astore_n 2, 1) := by decide +kernel
theorem d11_43 : decode prog_2_method_4_code 43 = .ok (.aload_n 2, 1) := by decide +kernel
theorem d11_44 : decode prog_2_method_4_code 44 = .ok (.invokevirtual 26, 3) := by decide +kernel
theorem d11_47 : decode prog_2_method_4_code 47 = .ok (.ifCond .eq 17, 3) := by decide +kernel
theorem d11_64 : decode prog_2_method_4_code 64 = .ok (.aload_n 2, 1) := by decide +kernel
theorem d11_65 : decode prog_2_method_4_code 65 = .ok (.areturn, 1) := by decide +kernel
theorem pd__Z : parseMethodDescriptor "()Z" = some ⟨[], some .boolean⟩ := by decide +kernel
def QrmVal (Z : State) (a0 : Addr) (ar : Addr) (kk : ClassId) (z : Int32) (vs : List Value) (wn : Int32) (r : Addr) (aw : Addr) (ab : Addr) (kb : ClassId) (zb : Int32) (vb : List Value) (h0 : Heap) (n0 : Nat) (v : Option Value) (h : Heap) (L : List Loc) : Prop := v = some (.ref r) ∧ Fr n0 L ∧ Keep h0 h [a0] ∧ Fld Z h a0 "com/example/steady_courier/steadycourier/OptionReader" "next" "I" (.int (wn + (1 : Int32))) ∧ Fld Z h a0 "com/example/steady_courier/steadycourier/OptionReader" "arguments" "[Ljava/lang/String;" (.ref ar)
set_option maxRecDepth 65536 in
set_option maxHeartbeats 40000000 in
theorem rmVal (l : Launch) (Z : State) (av0 : Array Value) (hw : ∀ d ∈ tables_1, d.before av0 Z = true) (ws : List Jvm.Cond) (a0 : Addr) (ar : Addr) (kk : ClassId) (z : Int32) (vs : List Value) (wn : Int32) (r : Addr) (aw : Addr) (ab : Addr) (kb : ClassId) (zb : Int32) (vb : List Value) (h0 : Heap) (n0 : Nat) (Z0 : n0 ≤ h0.size) (hF : Fld Z h0 a0 "com/example/steady_courier/steadycourier/OptionReader" "arguments" "[Ljava/lang/String;" (.ref ar)) (hN : Fld Z h0 a0 "com/example/steady_courier/steadycourier/OptionReader" "next" "I" (.int wn)) (hA : Arv Z h0 ar kk (.object "java/lang/String") z vs .null) (hE : Exa Z h0 a0 "com/example/steady_courier/steadycourier/OptionReader") (hge : n0 ≤ a0) (hne : a0 ≠ ar) (hin : ¬ wn < 0 ∧ wn < z) (hat : vs.getD wn.toNatClampNeg .null = .ref r) (hEr : Exa Z h0 r "java/lang/String") (hV : Fld Z h0 r "java/lang/String" "value" "[B" (.ref ab)) (hB : Arv Z h0 ab kb .byte zb vb (.int (0 : Int32))) (hz : ¬ zb = (0 : Int32)) (hne1 : a0 ≠ r) (hne2 : a0 ≠ ab) (hlt : ¬ wn = z) :
    MetFree l mN10 (head1 (Jvm.Cond.code mN10 prog_2_method_4_code 3 (some (.object "java/lang/String")) :: ws) ({ frames := 1, cells := 0, slots := 0, locals := 12 } : Room)) (fun aU U => aU = #[(.ref a0), (.ref aw)] ∧ Z.Warmed39 U.vm ∧ U.heap = h0) (fun _ _ _ _ _ => True) (fun _ U oU U' => ∃ vU LU, oU = .returned vU ∧ QrmVal Z a0 ar kk z vs wn r aw ab kb zb vb h0 n0 vU U'.heap LU ∧ FrameEnd U oU U' LU ({ frames := 1, cells := 0, slots := 0, locals := 12 } : Room).cells ({ frames := 1, cells := 0, slots := 0, locals := 12 } : Room).slots) := by
  refine MetFree.of_bodySF (plainFor_of_name pn_OptionReader) hisR ?_
  intro p e s m args below meth c s₁ Bd hml0 hP hK
  obtain ⟨rfl, hZ, hh⟩ := hP
  have hx := Bd.exec
  have hby := Bd.bytes
  have hml : c.maxLocals = 3 := hml0
  have hown : s.vm.findClass "com/example/steady_courier/steadycourier/OptionReader" = some m.cls := findClass_of_methodNamed Bd.named
  have hnm := (name_of_methodNamed Bd.named Bd.method).1
  have X0 : Stand p l e ({ frames := 1, cells := 0, slots := 0, locals := 12 } : Room) s m #[(.ref a0), (.ref aw)] below meth c s₁ [] 0 0 := Stand.of_body Bd
  have e0 : s₁.heap = h0 := by rw [← hh, Bd.state]; rfl
  have N0 := Fr.nil n0
  have pre0 : ∀ t, Steps p.tables e below (s₁.setTop (mkF m 0 #[rv a0, rv aw, .unset] [])) t → Steps p.tables e below (s₁.setTop (entryFrame m #[(.ref a0), (.ref aw)] 3)) t := fun t k => castTop (by first | (simp [entryFrame, mkF, argsToLocals, Value.category]; done) | rfl) k
  obtain ⟨T1, X1, e1, st1⟩ := getF X0 hx hZ hown (host := "") (Or.inl (hw _ (List.mem_of_getElem? (i := 46) rfl))) Via.refl e0 hN (g := (mkF m 1 #[rv a0, rv aw, .unset] [(.ref a0)])) rfl rfl (hb hby d11_1)
  obtain ⟨T2, X2, e2, st2⟩ := getF X1 hx hZ hown (host := "") (Or.inl (hw _ (List.mem_of_getElem? (i := 39) rfl))) Via.refl e1 hF (g := (mkF m 5 #[rv a0, rv aw, .unset] [(.ref a0), (.int wn)])) rfl rfl (hb hby d11_5)
  obtain ⟨cl3, Ar3, qk3, Sz3, Ng3, Hs3, Gs3⟩ := id hA
  obtain ⟨T4, X4, e4, st4⟩ := getF X2 hx hZ hown (host := "") (Or.inl (hw _ (List.mem_of_getElem? (i := 39) rfl))) Via.refl e2 hF (g := (mkF m 27 #[rv a0, rv aw, .unset] [(.ref a0)])) rfl rfl (hb hby d11_27)
  obtain ⟨T5, X5, e5, st5⟩ := getF X4 hx hZ hown (host := "") (Or.inl (hw _ (List.mem_of_getElem? (i := 46) rfl))) Via.refl e4 hN (g := (mkF m 32 #[rv a0, rv aw, .unset] [(.ref a0), (.ref a0), (.ref ar)])) rfl rfl (hb hby d11_32)
  obtain ⟨T6, h6, X6, e6, W6, st6⟩ := putF X5 hx hZ hown (host := "") (Or.inl (hw _ (List.mem_of_getElem? (i := 46) rfl))) Via.refl e5 hN hE (Or.inl (hw _ (List.mem_of_getElem? (i := 47) rfl))) (hw _ (List.mem_of_getElem? (i := 33) rfl)) (ty := .int) (by decide) rfl rfl (g := (mkF m 38 #[rv a0, rv aw, .unset] [(.int (wn + (1 : Int32))), (.ref a0), (.int wn), (.ref ar)])) rfl rfl (hb hby d11_38)
  have N6 := Fr.snoc X6 N0 hge
  have Z6 : n0 ≤ h6.size := Nat.le_trans Z0 (Nat.le_of_eq W6.size.symm)
  have K6 : Keep h0 h6 [a0] := (Keep.refl h0 [a0]).wr W6 (Or.inl (List.mem_of_getElem? (i := 0) rfl))
  have Fw6 := hN.same W6
  have f7 := (hA.other W6 (Ne.symm hne))
  obtain ⟨cl8, Ar8, qk8, Sz8, Ng8, Hs8, Gs8⟩ := id f7
  have hin8 : ¬ (wn < 0 ∨ cl8.slots.size ≤ (wn).toNatClampNeg) := inb_of Sz8 hin
  have hat8 : cl8.slots[(wn).toNatClampNeg]? = some (.ref r) := Hs8.at hin8 hat
  have f9 := (hV.other W6 (Or.inl (Ne.symm hne1)))
  have f10 := (hB.other W6 (Ne.symm hne2))
  have f12 := (hEr.wr W6)
  obtain ⟨_, T11, Lc11, X11, hQ11, st11⟩ := own_virtual (W := 0) (y := mN8) (z := mN8) X6 hx hZ hown (hw _ (List.mem_of_getElem? (i := 63) rfl)) (hw _ (List.mem_of_getElem? (i := 64) rfl)) (notFace_of_selects (args := #[]) (mvT hZ (hw _ (List.mem_of_getElem? (i := 66) rfl)))) (hw _ (List.mem_of_getElem? (i := 66) rfl)) (hw _ (List.mem_of_getElem? (i := 65) rfl)) (hw _ (List.mem_of_getElem? (i := 67) rfl)) (hw _ (List.mem_of_getElem? (i := 3) rfl)) (by decide) (rmEmp l Z av0 hw [] r ab kb zb vb h6 n0 Z6 f9 f10 hz) (by decide) (by decide) f12 (g := (mkF m 44 #[rv a0, rv aw, rv r] [(.ref r)])) rfl (by rw [hml]; rfl) (argsL := []) (rest := []) (lenOf pd__Z rfl) rfl (by show 2 * 0 + _ ≤ _; exact Nat.le_of_eq rfl) (hb hby d11_44) rfl e6 (by decide : 0 + 0 ≤ _) (by decide : 0 + 0 ≤ _)
  obtain ⟨rfl, N11q, hh11⟩ := hQ11
  have N11 := Fr.app N6 N11q
  have e11 : T11.heap = h6 := hh11
  have S13 : ∀ t, Steps p.tables e below (T11.setTop (mkF m 65 #[rv a0, rv aw, rv r] [(.ref r)])) t → Steps p.tables e below (s₁.setTop (mkF m 0 #[rv a0, rv aw, .unset] [])) t := fun t k => id (by
    show Steps p.tables e below (s₁.setTop (mkF m 0 #[rv a0, rv aw, .unset] [])) _
    refine XS.aloadN X0.here hx rfl (hb hby d11_0) rfl rfl ?_
    refine st1 _ ?_
    refine XS.aloadN X1.here hx rfl (hb hby d11_4) rfl rfl ?_
    refine st2 _ ?_
    refine X2.arraylength hx (by rw [e2]; exact Ar3.1) (State.isArrayOf_alike hZ.alike Ar3.2.1) (g := (mkF m 8 #[rv a0, rv aw, .unset] [(.ref ar), (.int wn)])) rfl rfl (hb hby d11_8) _ ?_
    rw [len_of Sz3 Ng3]
    refine XS.icmpYes X2.here hx rfl (pc0 := 9) (pc' := 26) rfl (hb hby d11_9) rfl (XT.ii_ne_t hlt) (by decide) (by decide) ?_
    show Steps p.tables e below (T2.setTop (mkF m 26 #[rv a0, rv aw, .unset] [])) _
    refine XS.aloadN X2.here hx rfl (hb hby d11_26) rfl rfl ?_
    refine st4 _ ?_
    refine XS.aloadN X4.here hx rfl (hb hby d11_30) rfl rfl ?_
    refine XS.dup X4.here hx rfl (hb hby d11_31) rfl rfl ?_
    refine st5 _ ?_
    refine XT.dupX1 X5.here hx rfl (hb hby d11_35) rfl rfl rfl ?_
    show Steps p.tables e below (T5.setTop (mkF m 36 #[rv a0, rv aw, .unset] [(.int wn), (.ref a0), (.int wn), (.ref ar)])) _
    refine XT.iconstV X5.here hx rfl (1 : Int32) (hb hby d11_36) (by decide) ?_
    refine XS.iadd X5.here hx rfl (hb hby d11_37) rfl ?_
    refine st6 _ ?_
    refine X6.aaload hx (j := wn) (v := (.ref r)) (by rw [e6]; exact Ar8.1) (State.isArrayOf_alike hZ.alike Ar8.2.1) rfl Ar8.2.2 hin8 hat8 (g := (mkF m 41 #[rv a0, rv aw, .unset] [(.int wn), (.ref ar)])) rfl rfl (hb hby d11_41) _ ?_
    refine XS.astoreN X6.here hx rfl (hb hby d11_42) rfl rfl (l' := #[rv a0, rv aw, rv r]) rfl ?_
    refine XS.aloadN X6.here hx rfl (hb hby d11_43) rfl rfl ?_
    show Steps p.tables e below (T6.setTop (mkF m 44 #[rv a0, rv aw, rv r] [(.ref r)])) _
    refine st11 _ ?_
    refine XS.ifYes X11.here hx rfl (pc0 := 47) (pc' := 64) rfl (hb hby d11_47) rfl (XT.i0_eq_t (by decide)) (by decide) (by decide) ?_
    refine XS.aloadN X11.here hx rfl (hb hby d11_64) rfl rfl ?_
    exact k)
  obtain ⟨fs, hr, hrun, hended, hW, hsame⟩ := X11.leave (v := some (.ref r)) (fun h => by rw [Bd.returns] at h; cases h)
  refine ⟨_, _, pre0 _ (S13 _ ?_), hrun, hended, _, _, rfl, ?_, ⟨_, rfl⟩, hW, hsame.mono (by decide) (by decide)⟩
  · jvm_step X11.here [X11.here.top, hx, (hb hby d11_65), X11.method', Bd.returns, Value.isRef, FieldType.isReference]
    first | (intro acts; rw [hr _ acts rfl rfl rfl]) | rw [hr _ _ rfl rfl rfl]
    exact Steps.refl _
  have f14 := (hF.other W6 (Or.inr (slot_ne (Or.inr (hw _ (List.mem_of_getElem? (i := 40) rfl))) (Or.inl (hw _ (List.mem_of_getElem? (i := 47) rfl))) (by decide) (t := (.array (.object "java/lang/String"))) (t' := .int) (by decide) (by decide))))
  · show QrmVal Z a0 ar kk z vs wn r aw ab kb zb vb h0 n0 _ T11.heap _
    rw [e11]
    exact ⟨rfl, N11, K6, Fw6, f14⟩
def Qrm0 (Z : State) (p0 p1 p2 p3 : Int32) (wC : Int32) (h0 : Heap) (n0 : Nat) (v : Option Value) (h : Heap) (L : List Loc) : Prop := v = some (.int 1) ∧ Fr n0 L
theorem pn_OptionReaderOptionPinLaw : plainName "com/example/steady_courier/steadycourier/OptionReaderOptionPinLaw" = true := by first | (simp [plainName, overriddenIn]; done) | decide +kernel
theorem pd__C_V : parseMethodDescriptor "([C)V" = some ⟨[(.array .char)], none⟩ := by decide +kernel
theorem pd__Ljava_lang_String_V : parseMethodDescriptor "([Ljava/lang/String;)V" = some ⟨[(.array (.object "java/lang/String"))], none⟩ := by decide +kernel
theorem pd__Ljava_lang_String_ : parseMethodDescriptor "()Ljava/lang/String;" = some ⟨[], some (.object "java/lang/String")⟩ := by decide +kernel
theorem pd__Ljava_lang_Object_Z : parseMethodDescriptor "(Ljava/lang/Object;)Z" = some ⟨[(.object "java/lang/Object")], some .boolean⟩ := by decide +kernel
set_option maxRecDepth 65536 in
set_option maxHeartbeats 40000000 in
theorem rm0_1_0 (l : Launch) (Z : State) (av0 : Array Value) (hw : ∀ d ∈ tables_1, d.before av0 Z = true) (ws : List Jvm.Cond) (p0 : Int32) (p1 : Int32) (p2 : Int32) (p3 : Int32) (wC : Int32) (h0 : Heap) (n0 : Nat) (Z0 : n0 ≤ h0.size) (hS : Sta Z h0 "java/lang/String" "COMPACT_STRINGS" "Z" (.int wC)) (hw0 : ¬ wC = (0 : Int32)) (hkp : ∀ (b : Addr) (cl : Cell), Z.heap[b]? = some cl → h0[b]? = some cl) (hcH : Jvm.Lit.constHeld Z "java/lang/String" 7) (hcw : Jvm.Lit.compactW.before av0 Z = true) (hk : own_P p3 (3 : Int32) = (0 : Int32)) (he : XT.ushr p3 (9 : Int32) &&& (1 : Int32) = (0 : Int32)) :
    MetFree l x (head1 (Jvm.Cond.code x code maxLocals ret :: ws) room_1) (fun aU U => aU = #[(.int p0), (.int p1), (.int p2), (.int p3)] ∧ Z.Warmed39 U.vm ∧ U.heap = h0 ∧ IB Z U.vm []) (fun _ _ _ _ _ => True) (fun _ U oU U' => ∃ vU LU, oU = .returned vU ∧ Qrm0 Z p0 p1 p2 p3 wC h0 n0 vU U'.heap LU ∧ ReturnedEndW U oU U' LU room_1.cells room_1.slots) := by
  refine MetFree.of_bodySF (plainFor_of_name pn_OptionReaderOptionPinLaw) hisR ?_
  intro p e s m args below meth c s₁ Bd hml0 hP hK
  obtain ⟨rfl, hZ, hh, hI⟩ := hP
  have hx := Bd.exec
  have hby := Bd.bytes
  have hml : c.maxLocals = 15 := hml0
  have hown : s.vm.findClass "com/example/steady_courier/steadycourier/OptionReaderOptionPinLaw" = some m.cls := findClass_of_methodNamed Bd.named
  have hnm := (name_of_methodNamed Bd.named Bd.method).1
  have X0 : Stand p l e room_1 s m #[(.int p0), (.int p1), (.int p2), (.int p3)] below meth c s₁ [] 0 0 := Stand.of_body Bd
  have e0 : s₁.heap = h0 := by rw [← hh, Bd.state]; rfl
  have N0 := Fr.nil n0
  have pre0 : ∀ t, Steps p.tables e below (s₁.setTop (mkF m 0 #[iv p0, iv p1, iv p2, iv p3, .unset, .unset, .unset, .unset, .unset, .unset, .unset, .unset, .unset, .unset, .unset] [])) t → Steps p.tables e below (s₁.setTop (entryFrame m #[(.int p0), (.int p1), (.int p2), (.int p3)] maxLocals)) t := fun t k => castTop (by first | (simp [entryFrame, mkF, argsToLocals, Value.category, maxLocals]; done) | rfl) k
  have S1 : ∀ t, Steps p.tables e below (s₁.setTop (mkF m 16 #[iv p0, iv p1, iv p2, iv p3, iv (((1 : Int32) + (0 : Int32))), .unset, .unset, .unset, .unset, .unset, .unset, .unset, .unset, .unset, .unset] [(.int ((XT.ushr p3 (8 : Int32)) &&& (1 : Int32)))])) t → Steps p.tables e below (s₁.setTop (mkF m 0 #[iv p0, iv p1, iv p2, iv p3, .unset, .unset, .unset, .unset, .unset, .unset, .unset, .unset, .unset, .unset, .unset] [])) t := fun t k => id (by
    show Steps p.tables e below (s₁.setTop (mkF m 0 #[iv p0, iv p1, iv p2, iv p3, .unset, .unset, .unset, .unset, .unset, .unset, .unset, .unset, .unset, .unset, .unset] [])) _
    refine XT.iconstV X0.here hx rfl (1 : Int32) (hb hby at_0) (by decide) ?_
    refine XS.iloadN X0.here hx rfl (hb hby at_1) rfl ?_
    refine X0.ldcI hx hown (mvT hZ (hw _ (List.mem_of_getElem? (i := 0) rfl))) rfl (hb hby at_2) ?_
    refine XS.iand X0.here hx rfl (hb hby at_4) rfl ?_
    refine XT.iconstV X0.here hx rfl (3 : Int32) (hb hby at_5) (by decide) ?_
    refine XS.irem X0.here hx rfl (hb hby at_6) rfl (by decide) ?_
    show Steps p.tables e below (s₁.setTop (mkF m 7 #[iv p0, iv p1, iv p2, iv p3, .unset, .unset, .unset, .unset, .unset, .unset, .unset, .unset, .unset, .unset, .unset] [(.int ((p3 &&& (2147483647 : Int32)) - ((p3 &&& (2147483647 : Int32)) / (3 : Int32)) * (3 : Int32))), (.int (1 : Int32))])) _
    show Steps p.tables e below (s₁.setTop (mkF m 7 #[iv p0, iv p1, iv p2, iv p3, .unset, .unset, .unset, .unset, .unset, .unset, .unset, .unset, .unset, .unset, .unset] [(.int ((p3 &&& (2147483647 : Int32)) - ((p3 &&& (2147483647 : Int32)) / (3 : Int32)) * (3 : Int32))), (.int (1 : Int32))])) _
    show Steps p.tables e below (s₁.setTop (mkF m 7 #[iv p0, iv p1, iv p2, iv p3, .unset, .unset, .unset, .unset, .unset, .unset, .unset, .unset, .unset, .unset, .unset] [(.int (own_P p3 (3 : Int32))), (.int (1 : Int32))])) _
    rw [hk]
    show Steps p.tables e below (s₁.setTop (mkF m 7 #[iv p0, iv p1, iv p2, iv p3, .unset, .unset, .unset, .unset, .unset, .unset, .unset, .unset, .unset, .unset, .unset] [(.int (0 : Int32)), (.int (1 : Int32))])) _
    refine XS.iadd X0.here hx rfl (hb hby at_7) rfl ?_
    refine XS.istore X0.here hx rfl (hb hby at_8) rfl (l' := #[iv p0, iv p1, iv p2, iv p3, iv (((1 : Int32) + (0 : Int32))), .unset, .unset, .unset, .unset, .unset, .unset, .unset, .unset, .unset, .unset]) rfl ?_
    refine XS.iloadN X0.here hx rfl (hb hby at_10) rfl ?_
    refine XT.bipushV X0.here hx rfl (8 : Int32) (hb hby at_11) (by decide) ?_
    refine XT.iushr X0.here hx rfl (hb hby at_13) rfl ?_
    show Steps p.tables e below (s₁.setTop (mkF m 14 #[iv p0, iv p1, iv p2, iv p3, iv (((1 : Int32) + (0 : Int32))), .unset, .unset, .unset, .unset, .unset, .unset, .unset, .unset, .unset, .unset] [(.int (XT.ushr p3 (8 : Int32)))])) _
    refine XT.iconstV X0.here hx rfl (1 : Int32) (hb hby at_14) (by decide) ?_
    refine XS.iand X0.here hx rfl (hb hby at_15) rfl ?_
    exact k)
  by_cases hc16_2 : ((XT.ushr p3 (8 : Int32)) &&& (1 : Int32)) = (0 : Int32)
  · obtain ⟨T3, h3, X3, e3, E3, A3, D3, -, st3⟩ := newO X0 hx hZ hown (hw _ (List.mem_of_getElem? (i := 1) rfl)) (hw _ (List.mem_of_getElem? (i := 2) rfl)) (hw _ (List.mem_of_getElem? (i := 3) rfl)) e0 (g := (mkF m 60 #[iv p0, iv p1, iv p2, iv p3, iv (((1 : Int32) + (0 : Int32))), iv (0 : Int32), iv (0 : Int32), .unset, .unset, .unset, .unset, .unset, .unset, .unset, .unset] [])) rfl (hb hby at_60) (by decide) (by decide)
    obtain ⟨b3, g3⟩ : ∃ z, z = h0.size := ⟨_, rfl⟩
    rw [← g3] at A3 D3 st3
    have ge_b3 : n0 ≤ b3 := Nat.le_trans Z0 (Nat.le_of_eq g3.symm)
    have sz_b3 : h0.size ≤ b3 := Nat.le_of_eq g3.symm
    have Z3 : n0 ≤ h3.size := Nat.le_trans Z0 E3.1
    have K3 : Keep h0 h3 [] := (Keep.refl h0 []).ext E3
    have F3_coder : Fld Z h3 b3 "java/lang/String" "coder" "B" (.int (0 : Int32)) := D3 (Or.inr (hw _ (List.mem_of_getElem? (i := 28) rfl))) (ty := .byte) (by decide)
    have F3_value : Fld Z h3 b3 "java/lang/String" "value" "[B" .null := D3 (Or.inr (hw _ (List.mem_of_getElem? (i := 30) rfl))) (ty := (.array .byte)) (by decide)
    obtain ⟨T4, h4, k4, X4, e4, E4, A4, st4⟩ := newP X3 hx hZ (hw _ (List.mem_of_getElem? (i := 4) rfl)) e3 (g := (mkF m 65 #[iv p0, iv p1, iv p2, iv p3, iv (((1 : Int32) + (0 : Int32))), iv (0 : Int32), iv (0 : Int32), .unset, .unset, .unset, .unset, .unset, .unset, .unset, .unset] [(.int (2 : Int32)), (.ref b3), (.ref b3)])) rfl (hb hby at_65) rfl (by decide) (cap := 2) (by decide) (by decide) (by decide) (by decide)
    obtain ⟨b4, g4⟩ : ∃ z, z = h3.size := ⟨_, rfl⟩
    rw [← g4] at A4 st4
    have ne_b3_b4 : b3 ≠ b4 := Nat.ne_of_lt (Nat.lt_of_lt_of_le A3.lt (Nat.le_of_eq g4.symm))
    have ge_b4 : n0 ≤ b4 := Nat.le_trans Z3 (Nat.le_of_eq g4.symm)
    have sz_b4 : h0.size ≤ b4 := Nat.le_trans K3.1 (Nat.le_of_eq g4.symm)
    have Z4 : n0 ≤ h4.size := Nat.le_trans Z3 E4.1
    have K4 : Keep h0 h4 [] := K3.ext E4
    have V4 : Arv Z h4 b4 k4 .char (2 : Int32) [(.int (0 : Int32)), (.int (0 : Int32))] (.int (0 : Int32)) := (Arv.new A4 (by decide)).pad (pad_rep [] (.int (0 : Int32)) 2)
    obtain ⟨cl5, Ar5, qk5, Sz5, Ng5, Hs5, Gs5⟩ := id V4
    have hin5 : ¬ ((0 : Int32) < 0 ∨ cl5.slots.size ≤ ((0 : Int32)).toNatClampNeg) := inb_of Sz5 ⟨by decide, by decide⟩
    obtain ⟨T6, h6, X6, e6, W6, st6⟩ := stC X4 hx hZ e4 Ar5 (j := (0 : Int32)) hin5 (g := (mkF m 75 #[iv p0, iv p1, iv p2, iv p3, iv (((1 : Int32) + (0 : Int32))), iv (0 : Int32), iv (0 : Int32), .unset, .unset, .unset, .unset, .unset, .unset, .unset, .unset] [(.int ((p0 &&& (255 : Int32))).toUInt32.toUInt16.toUInt32.toInt32), (.int (0 : Int32)), (.ref b4), (.ref b4), (.ref b3), (.ref b3)])) rfl rfl (hb hby at_75)
    have N6 := Fr.snoc X6 N0 ge_b4
    have Z6 : n0 ≤ h6.size := Nat.le_trans Z4 (Nat.le_of_eq W6.size.symm)
    have K6 : Keep h0 h6 [] := K4.wr W6 (Or.inr sz_b4)
    have V6 : Arv Z h6 b4 k4 .char (2 : Int32) [(.int (nar .char ((p0 &&& (255 : Int32))).toUInt32.toUInt16.toUInt32.toInt32)), (.int (0 : Int32))] (.int (0 : Int32)) := Arv.set Ar5 qk5 Sz5 Ng5 Hs5 Gs5 (fits_nar_char _) W6 0 rfl (Nat.le_of_ble_eq_true rfl)
    obtain ⟨cl7, Ar7, qk7, Sz7, Ng7, Hs7, Gs7⟩ := id V6
    have hin7 : ¬ ((1 : Int32) < 0 ∨ cl7.slots.size ≤ ((1 : Int32)).toNatClampNeg) := inb_of Sz7 ⟨by decide, by decide⟩
    obtain ⟨T8, h8, X8, e8, W8, st8⟩ := stC X6 hx hZ e6 Ar7 (j := (1 : Int32)) hin7 (g := (mkF m 80 #[iv p0, iv p1, iv p2, iv p3, iv (((1 : Int32) + (0 : Int32))), iv (0 : Int32), iv (0 : Int32), .unset, .unset, .unset, .unset, .unset, .unset, .unset, .unset] [(.int (97 : Int32)), (.int (1 : Int32)), (.ref b4), (.ref b4), (.ref b3), (.ref b3)])) rfl rfl (hb hby at_80)
    have N8 := Fr.snoc X8 N6 ge_b4
    have Z8 : n0 ≤ h8.size := Nat.le_trans Z6 (Nat.le_of_eq W8.size.symm)
    have K8 : Keep h0 h8 [] := K6.wr W8 (Or.inr sz_b4)
    have V8 : Arv Z h8 b4 k4 .char (2 : Int32) [(.int (nar .char ((p0 &&& (255 : Int32))).toUInt32.toUInt16.toUInt32.toInt32)), (.int (nar .char (97 : Int32)))] (.int (0 : Int32)) := Arv.set Ar7 qk7 Sz7 Ng7 Hs7 Gs7 (fits_nar_char _) W8 1 rfl (Nat.le_of_ble_eq_true rfl)
    have f9 := (((A3.ext E4).wr W6).wr W8)
    have f10 := (((F3_value.ext E4).other W6 (Or.inl ne_b3_b4)).other W8 (Or.inl ne_b3_b4))
    have f11 := (((F3_coder.ext E4).other W6 (Or.inl ne_b3_b4)).other W8 (Or.inl ne_b3_b4))
    have f12 := ((((hS.ext E3).ext E4).wr W6).wr W8)
    obtain ⟨_, T13, Lc13, X13, hQ13, st13⟩ := own_special (W := 1) (y := mN4) X8 hx hZ rfl hown (hw _ (List.mem_of_getElem? (i := 5) rfl)) (hw _ (List.mem_of_getElem? (i := 6) rfl)) (hw _ (List.mem_of_getElem? (i := 7) rfl)) (hw _ (List.mem_of_getElem? (i := 3) rfl)) (by decide) (rmSi2_2 l Z av0 hw [] b3 b4 k4 wC (nar .char ((p0 &&& (255 : Int32))).toUInt32.toUInt16.toUInt32.toInt32) (nar .char (97 : Int32)) h8 n0 Z8 f9 f10 f11 ge_b3 V8 f12 hw0 (own_ch p0) (by decide)) (by decide) (by decide) (g := (mkF m 81 #[iv p0, iv p1, iv p2, iv p3, iv (((1 : Int32) + (0 : Int32))), iv (0 : Int32), iv (0 : Int32), .unset, .unset, .unset, .unset, .unset, .unset, .unset, .unset] [(.ref b4), (.ref b3), (.ref b3)])) rfl (by rw [hml]; rfl) (a := b3) (argsL := [(.ref b4)]) (rest := [(.ref b3)]) (lenOf pd__C_V rfl) rfl (by show 2 * 0 + _ ≤ _; exact Nat.le_of_eq rfl) (hb hby at_81) rfl e8 (by decide : 2 + 1 ≤ _) (by decide : 6 + 2 ≤ _)
    obtain ⟨rfl, N13q, K13, FC13, b13, kb13, FV13, V13, gb13⟩ := hQ13
    have N13 := Fr.app N8 N13q
    have e13 : T13.heap = T13.heap := rfl
    have ne_b3_b13 : b3 ≠ b13 := Nat.ne_of_lt (Nat.lt_of_lt_of_le f9.lt gb13)
    have ne_b4_b13 : b4 ≠ b13 := Nat.ne_of_lt (Nat.lt_of_lt_of_le V8.lt gb13)
    have ge_b13 : n0 ≤ b13 := Nat.le_trans Z8 gb13
    have sz_b13 : h0.size ≤ b13 := Nat.le_trans K8.1 gb13
    have Zk13 : n0 ≤ T13.heap.size := Nat.le_trans Z8 K13.1
    have Kk13 : Keep h0 T13.heap [] := K8.trans K13 (allS (Or.inr sz_b3) all0)
    obtain ⟨T14, h14, X14, e14, E14, A14, D14, -, st14⟩ := newO X13 hx hZ hown (hw _ (List.mem_of_getElem? (i := 1) rfl)) (hw _ (List.mem_of_getElem? (i := 2) rfl)) (hw _ (List.mem_of_getElem? (i := 3) rfl)) e13 (g := (mkF m 86 #[iv p0, iv p1, iv p2, iv p3, iv (((1 : Int32) + (0 : Int32))), iv (0 : Int32), iv (0 : Int32), rv b3, .unset, .unset, .unset, .unset, .unset, .unset, .unset] [])) rfl (hb hby at_86) (by decide) (by decide)
    obtain ⟨b14, g14⟩ : ∃ z, z = T13.heap.size := ⟨_, rfl⟩
    rw [← g14] at A14 D14 st14
    have ne_b13_b14 : b13 ≠ b14 := Nat.ne_of_lt (Nat.lt_of_lt_of_le V13.lt (Nat.le_of_eq g14.symm))
    have f15 := (f9.keep K13)
    have ne_b3_b14 : b3 ≠ b14 := Nat.ne_of_lt (Nat.lt_of_lt_of_le f15.lt (Nat.le_of_eq g14.symm))
    have f16 := (V8.keep K13 (ninS (Ne.symm ne_b3_b4) nin0))
    have ne_b4_b14 : b4 ≠ b14 := Nat.ne_of_lt (Nat.lt_of_lt_of_le f16.lt (Nat.le_of_eq g14.symm))
    have ge_b14 : n0 ≤ b14 := Nat.le_trans Zk13 (Nat.le_of_eq g14.symm)
    have sz_b14 : h0.size ≤ b14 := Nat.le_trans Kk13.1 (Nat.le_of_eq g14.symm)
    have Z14 : n0 ≤ h14.size := Nat.le_trans Zk13 E14.1
    have K14 : Keep h0 h14 [] := Kk13.ext E14
    have F14_coder : Fld Z h14 b14 "java/lang/String" "coder" "B" (.int (0 : Int32)) := D14 (Or.inr (hw _ (List.mem_of_getElem? (i := 28) rfl))) (ty := .byte) (by decide)
    have F14_value : Fld Z h14 b14 "java/lang/String" "value" "[B" .null := D14 (Or.inr (hw _ (List.mem_of_getElem? (i := 30) rfl))) (ty := (.array .byte)) (by decide)
    obtain ⟨T17, h17, k17, X17, e17, E17, A17, st17⟩ := newP X14 hx hZ (hw _ (List.mem_of_getElem? (i := 4) rfl)) e14 (g := (mkF m 91 #[iv p0, iv p1, iv p2, iv p3, iv (((1 : Int32) + (0 : Int32))), iv (0 : Int32), iv (0 : Int32), rv b3, .unset, .unset, .unset, .unset, .unset, .unset, .unset] [(.int (2 : Int32)), (.ref b14), (.ref b14)])) rfl (hb hby at_91) rfl (by decide) (cap := 2) (by decide) (by decide) (by decide) (by decide)
    obtain ⟨b17, g17⟩ : ∃ z, z = h14.size := ⟨_, rfl⟩
    rw [← g17] at A17 st17
    have f18 := (V13.ext E14)
    have ne_b13_b17 : b13 ≠ b17 := Nat.ne_of_lt (Nat.lt_of_lt_of_le f18.lt (Nat.le_of_eq g17.symm))
    have ne_b14_b17 : b14 ≠ b17 := Nat.ne_of_lt (Nat.lt_of_lt_of_le A14.lt (Nat.le_of_eq g17.symm))
    have f19 := (f15.ext E14)
    have ne_b3_b17 : b3 ≠ b17 := Nat.ne_of_lt (Nat.lt_of_lt_of_le f19.lt (Nat.le_of_eq g17.symm))
    have f20 := (f16.ext E14)
    have ne_b4_b17 : b4 ≠ b17 := Nat.ne_of_lt (Nat.lt_of_lt_of_le f20.lt (Nat.le_of_eq g17.symm))
    have ge_b17 : n0 ≤ b17 := Nat.le_trans Z14 (Nat.le_of_eq g17.symm)
    have sz_b17 : h0.size ≤ b17 := Nat.le_trans K14.1 (Nat.le_of_eq g17.symm)
    have Z17 : n0 ≤ h17.size := Nat.le_trans Z14 E17.1
    have K17 : Keep h0 h17 [] := K14.ext E17
    have V17 : Arv Z h17 b17 k17 .char (2 : Int32) [(.int (0 : Int32)), (.int (0 : Int32))] (.int (0 : Int32)) := (Arv.new A17 (by decide)).pad (pad_rep [] (.int (0 : Int32)) 2)
    obtain ⟨cl21, Ar21, qk21, Sz21, Ng21, Hs21, Gs21⟩ := id V17
    have hin21 : ¬ ((0 : Int32) < 0 ∨ cl21.slots.size ≤ ((0 : Int32)).toNatClampNeg) := inb_of Sz21 ⟨by decide, by decide⟩
    obtain ⟨T22, h22, X22, e22, W22, st22⟩ := stC X17 hx hZ e17 Ar21 (j := (0 : Int32)) hin21 (g := (mkF m 101 #[iv p0, iv p1, iv p2, iv p3, iv (((1 : Int32) + (0 : Int32))), iv (0 : Int32), iv (0 : Int32), rv b3, .unset, .unset, .unset, .unset, .unset, .unset, .unset] [(.int ((p1 &&& (255 : Int32))).toUInt32.toUInt16.toUInt32.toInt32), (.int (0 : Int32)), (.ref b17), (.ref b17), (.ref b14), (.ref b14)])) rfl rfl (hb hby at_101)
    have N22 := Fr.snoc X22 N13 ge_b17
    have Z22 : n0 ≤ h22.size := Nat.le_trans Z17 (Nat.le_of_eq W22.size.symm)
    have K22 : Keep h0 h22 [] := K17.wr W22 (Or.inr sz_b17)
    have V22 : Arv Z h22 b17 k17 .char (2 : Int32) [(.int (nar .char ((p1 &&& (255 : Int32))).toUInt32.toUInt16.toUInt32.toInt32)), (.int (0 : Int32))] (.int (0 : Int32)) := Arv.set Ar21 qk21 Sz21 Ng21 Hs21 Gs21 (fits_nar_char _) W22 0 rfl (Nat.le_of_ble_eq_true rfl)
    obtain ⟨cl23, Ar23, qk23, Sz23, Ng23, Hs23, Gs23⟩ := id V22
    have hin23 : ¬ ((1 : Int32) < 0 ∨ cl23.slots.size ≤ ((1 : Int32)).toNatClampNeg) := inb_of Sz23 ⟨by decide, by decide⟩
    obtain ⟨T24, h24, X24, e24, W24, st24⟩ := stC X22 hx hZ e22 Ar23 (j := (1 : Int32)) hin23 (g := (mkF m 106 #[iv p0, iv p1, iv p2, iv p3, iv (((1 : Int32) + (0 : Int32))), iv (0 : Int32), iv (0 : Int32), rv b3, .unset, .unset, .unset, .unset, .unset, .unset, .unset] [(.int (98 : Int32)), (.int (1 : Int32)), (.ref b17), (.ref b17), (.ref b14), (.ref b14)])) rfl rfl (hb hby at_106)
    have N24 := Fr.snoc X24 N22 ge_b17
    have Z24 : n0 ≤ h24.size := Nat.le_trans Z22 (Nat.le_of_eq W24.size.symm)
    have K24 : Keep h0 h24 [] := K22.wr W24 (Or.inr sz_b17)
    have V24 : Arv Z h24 b17 k17 .char (2 : Int32) [(.int (nar .char ((p1 &&& (255 : Int32))).toUInt32.toUInt16.toUInt32.toInt32)), (.int (nar .char (98 : Int32)))] (.int (0 : Int32)) := Arv.set Ar23 qk23 Sz23 Ng23 Hs23 Gs23 (fits_nar_char _) W24 1 rfl (Nat.le_of_ble_eq_true rfl)
    have f25 := (((A14.ext E17).wr W22).wr W24)
    have f26 := (((F14_value.ext E17).other W22 (Or.inl ne_b14_b17)).other W24 (Or.inl ne_b14_b17))
    have f27 := (((F14_coder.ext E17).other W22 (Or.inl ne_b14_b17)).other W24 (Or.inl ne_b14_b17))
    have f28 := (((((own_stak f12 K13 (allS (own_exns f9) all0)).ext E14).ext E17).wr W22).wr W24)
    obtain ⟨_, T29, Lc29, X29, hQ29, st29⟩ := own_special (W := 1) (y := mN4) X24 hx hZ rfl hown (hw _ (List.mem_of_getElem? (i := 5) rfl)) (hw _ (List.mem_of_getElem? (i := 6) rfl)) (hw _ (List.mem_of_getElem? (i := 7) rfl)) (hw _ (List.mem_of_getElem? (i := 3) rfl)) (by decide) (rmSi2_2 l Z av0 hw [] b14 b17 k17 wC (nar .char ((p1 &&& (255 : Int32))).toUInt32.toUInt16.toUInt32.toInt32) (nar .char (98 : Int32)) h24 n0 Z24 f25 f26 f27 ge_b14 V24 f28 hw0 (own_ch p1) (by decide)) (by decide) (by decide) (g := (mkF m 107 #[iv p0, iv p1, iv p2, iv p3, iv (((1 : Int32) + (0 : Int32))), iv (0 : Int32), iv (0 : Int32), rv b3, .unset, .unset, .unset, .unset, .unset, .unset, .unset] [(.ref b17), (.ref b14), (.ref b14)])) rfl (by rw [hml]; rfl) (a := b14) (argsL := [(.ref b17)]) (rest := [(.ref b14)]) (lenOf pd__C_V rfl) rfl (by show 2 * 0 + _ ≤ _; exact Nat.le_of_eq rfl) (hb hby at_107) rfl e24 (by decide : 5 + 1 ≤ _) (by decide : 14 + 2 ≤ _)
    obtain ⟨rfl, N29q, K29, FC29, b29, kb29, FV29, V29, gb29⟩ := hQ29
    have N29 := Fr.app N24 N29q
    have e29 : T29.heap = T29.heap := rfl
    have f30 := (((f18.ext E17).other W22 ne_b13_b17).other W24 ne_b13_b17)
    have ne_b13_b29 : b13 ≠ b29 := Nat.ne_of_lt (Nat.lt_of_lt_of_le f30.lt gb29)
    have ne_b14_b29 : b14 ≠ b29 := Nat.ne_of_lt (Nat.lt_of_lt_of_le f25.lt gb29)
    have ne_b17_b29 : b17 ≠ b29 := Nat.ne_of_lt (Nat.lt_of_lt_of_le V24.lt gb29)
    have f31 := (((f19.ext E17).wr W22).wr W24)
    have ne_b3_b29 : b3 ≠ b29 := Nat.ne_of_lt (Nat.lt_of_lt_of_le f31.lt gb29)
    have f32 := (((f20.ext E17).other W22 ne_b4_b17).other W24 ne_b4_b17)
    have ne_b4_b29 : b4 ≠ b29 := Nat.ne_of_lt (Nat.lt_of_lt_of_le f32.lt gb29)
    have ge_b29 : n0 ≤ b29 := Nat.le_trans Z24 gb29
    have sz_b29 : h0.size ≤ b29 := Nat.le_trans K24.1 gb29
    have Zk29 : n0 ≤ T29.heap.size := Nat.le_trans Z24 K29.1
    have Kk29 : Keep h0 T29.heap [] := K24.trans K29 (allS (Or.inr sz_b14) all0)
    obtain ⟨T33, h33, X33, e33, E33, A33, D33, -, st33⟩ := newO X29 hx hZ hown (hw _ (List.mem_of_getElem? (i := 1) rfl)) (hw _ (List.mem_of_getElem? (i := 2) rfl)) (hw _ (List.mem_of_getElem? (i := 3) rfl)) e29 (g := (mkF m 112 #[iv p0, iv p1, iv p2, iv p3, iv (((1 : Int32) + (0 : Int32))), iv (0 : Int32), iv (0 : Int32), rv b3, rv b14, .unset, .unset, .unset, .unset, .unset, .unset] [])) rfl (hb hby at_112) (by decide) (by decide)
    obtain ⟨b33, g33⟩ : ∃ z, z = T29.heap.size := ⟨_, rfl⟩
    rw [← g33] at A33 D33 st33
    have f34 := (f30.keep K29 (ninS ne_b13_b14 nin0))
    have ne_b13_b33 : b13 ≠ b33 := Nat.ne_of_lt (Nat.lt_of_lt_of_le f34.lt (Nat.le_of_eq g33.symm))
    have f35 := (f25.keep K29)
    have ne_b14_b33 : b14 ≠ b33 := Nat.ne_of_lt (Nat.lt_of_lt_of_le f35.lt (Nat.le_of_eq g33.symm))
    have f36 := (V24.keep K29 (ninS (Ne.symm ne_b14_b17) nin0))
    have ne_b17_b33 : b17 ≠ b33 := Nat.ne_of_lt (Nat.lt_of_lt_of_le f36.lt (Nat.le_of_eq g33.symm))
    have ne_b29_b33 : b29 ≠ b33 := Nat.ne_of_lt (Nat.lt_of_lt_of_le V29.lt (Nat.le_of_eq g33.symm))
    have f37 := (f31.keep K29)
    have ne_b3_b33 : b3 ≠ b33 := Nat.ne_of_lt (Nat.lt_of_lt_of_le f37.lt (Nat.le_of_eq g33.symm))
    have f38 := (f32.keep K29 (ninS ne_b4_b14 nin0))
    have ne_b4_b33 : b4 ≠ b33 := Nat.ne_of_lt (Nat.lt_of_lt_of_le f38.lt (Nat.le_of_eq g33.symm))
    have ge_b33 : n0 ≤ b33 := Nat.le_trans Zk29 (Nat.le_of_eq g33.symm)
    have sz_b33 : h0.size ≤ b33 := Nat.le_trans Kk29.1 (Nat.le_of_eq g33.symm)
    have Z33 : n0 ≤ h33.size := Nat.le_trans Zk29 E33.1
    have K33 : Keep h0 h33 [] := Kk29.ext E33
    have F33_coder : Fld Z h33 b33 "java/lang/String" "coder" "B" (.int (0 : Int32)) := D33 (Or.inr (hw _ (List.mem_of_getElem? (i := 28) rfl))) (ty := .byte) (by decide)
    have F33_value : Fld Z h33 b33 "java/lang/String" "value" "[B" .null := D33 (Or.inr (hw _ (List.mem_of_getElem? (i := 30) rfl))) (ty := (.array .byte)) (by decide)
    obtain ⟨T39, h39, k39, X39, e39, E39, A39, st39⟩ := newP X33 hx hZ (hw _ (List.mem_of_getElem? (i := 4) rfl)) e33 (g := (mkF m 117 #[iv p0, iv p1, iv p2, iv p3, iv (((1 : Int32) + (0 : Int32))), iv (0 : Int32), iv (0 : Int32), rv b3, rv b14, .unset, .unset, .unset, .unset, .unset, .unset] [(.int (2 : Int32)), (.ref b33), (.ref b33)])) rfl (hb hby at_117) rfl (by decide) (cap := 2) (by decide) (by decide) (by decide) (by decide)
    obtain ⟨b39, g39⟩ : ∃ z, z = h33.size := ⟨_, rfl⟩
    rw [← g39] at A39 st39
    have f40 := (f34.ext E33)
    have ne_b13_b39 : b13 ≠ b39 := Nat.ne_of_lt (Nat.lt_of_lt_of_le f40.lt (Nat.le_of_eq g39.symm))
    have f41 := (f35.ext E33)
    have ne_b14_b39 : b14 ≠ b39 := Nat.ne_of_lt (Nat.lt_of_lt_of_le f41.lt (Nat.le_of_eq g39.symm))
    have f42 := (f36.ext E33)
    have ne_b17_b39 : b17 ≠ b39 := Nat.ne_of_lt (Nat.lt_of_lt_of_le f42.lt (Nat.le_of_eq g39.symm))
    have f43 := (V29.ext E33)
    have ne_b29_b39 : b29 ≠ b39 := Nat.ne_of_lt (Nat.lt_of_lt_of_le f43.lt (Nat.le_of_eq g39.symm))
    have f44 := (f37.ext E33)
    have ne_b3_b39 : b3 ≠ b39 := Nat.ne_of_lt (Nat.lt_of_lt_of_le f44.lt (Nat.le_of_eq g39.symm))
    have ne_b33_b39 : b33 ≠ b39 := Nat.ne_of_lt (Nat.lt_of_lt_of_le A33.lt (Nat.le_of_eq g39.symm))
    have f45 := (f38.ext E33)
    have ne_b4_b39 : b4 ≠ b39 := Nat.ne_of_lt (Nat.lt_of_lt_of_le f45.lt (Nat.le_of_eq g39.symm))
    have ge_b39 : n0 ≤ b39 := Nat.le_trans Z33 (Nat.le_of_eq g39.symm)
    have sz_b39 : h0.size ≤ b39 := Nat.le_trans K33.1 (Nat.le_of_eq g39.symm)
    have Z39 : n0 ≤ h39.size := Nat.le_trans Z33 E39.1
    have K39 : Keep h0 h39 [] := K33.ext E39
    have V39 : Arv Z h39 b39 k39 .char (2 : Int32) [(.int (0 : Int32)), (.int (0 : Int32))] (.int (0 : Int32)) := (Arv.new A39 (by decide)).pad (pad_rep [] (.int (0 : Int32)) 2)
    obtain ⟨cl46, Ar46, qk46, Sz46, Ng46, Hs46, Gs46⟩ := id V39
    have hin46 : ¬ ((0 : Int32) < 0 ∨ cl46.slots.size ≤ ((0 : Int32)).toNatClampNeg) := inb_of Sz46 ⟨by decide, by decide⟩
    obtain ⟨T47, h47, X47, e47, W47, st47⟩ := stC X39 hx hZ e39 Ar46 (j := (0 : Int32)) hin46 (g := (mkF m 127 #[iv p0, iv p1, iv p2, iv p3, iv (((1 : Int32) + (0 : Int32))), iv (0 : Int32), iv (0 : Int32), rv b3, rv b14, .unset, .unset, .unset, .unset, .unset, .unset] [(.int ((p2 &&& (255 : Int32))).toUInt32.toUInt16.toUInt32.toInt32), (.int (0 : Int32)), (.ref b39), (.ref b39), (.ref b33), (.ref b33)])) rfl rfl (hb hby at_127)
    have N47 := Fr.snoc X47 N29 ge_b39
    have Z47 : n0 ≤ h47.size := Nat.le_trans Z39 (Nat.le_of_eq W47.size.symm)
    have K47 : Keep h0 h47 [] := K39.wr W47 (Or.inr sz_b39)
    have V47 : Arv Z h47 b39 k39 .char (2 : Int32) [(.int (nar .char ((p2 &&& (255 : Int32))).toUInt32.toUInt16.toUInt32.toInt32)), (.int (0 : Int32))] (.int (0 : Int32)) := Arv.set Ar46 qk46 Sz46 Ng46 Hs46 Gs46 (fits_nar_char _) W47 0 rfl (Nat.le_of_ble_eq_true rfl)
    obtain ⟨cl48, Ar48, qk48, Sz48, Ng48, Hs48, Gs48⟩ := id V47
    have hin48 : ¬ ((1 : Int32) < 0 ∨ cl48.slots.size ≤ ((1 : Int32)).toNatClampNeg) := inb_of Sz48 ⟨by decide, by decide⟩
    obtain ⟨T49, h49, X49, e49, W49, st49⟩ := stC X47 hx hZ e47 Ar48 (j := (1 : Int32)) hin48 (g := (mkF m 132 #[iv p0, iv p1, iv p2, iv p3, iv (((1 : Int32) + (0 : Int32))), iv (0 : Int32), iv (0 : Int32), rv b3, rv b14, .unset, .unset, .unset, .unset, .unset, .unset] [(.int (99 : Int32)), (.int (1 : Int32)), (.ref b39), (.ref b39), (.ref b33), (.ref b33)])) rfl rfl (hb hby at_132)
    have N49 := Fr.snoc X49 N47 ge_b39
    have Z49 : n0 ≤ h49.size := Nat.le_trans Z47 (Nat.le_of_eq W49.size.symm)
    have K49 : Keep h0 h49 [] := K47.wr W49 (Or.inr sz_b39)
    have V49 : Arv Z h49 b39 k39 .char (2 : Int32) [(.int (nar .char ((p2 &&& (255 : Int32))).toUInt32.toUInt16.toUInt32.toInt32)), (.int (nar .char (99 : Int32)))] (.int (0 : Int32)) := Arv.set Ar48 qk48 Sz48 Ng48 Hs48 Gs48 (fits_nar_char _) W49 1 rfl (Nat.le_of_ble_eq_true rfl)
    have f50 := (((A33.ext E39).wr W47).wr W49)
    have f51 := (((F33_value.ext E39).other W47 (Or.inl ne_b33_b39)).other W49 (Or.inl ne_b33_b39))
    have f52 := (((F33_coder.ext E39).other W47 (Or.inl ne_b33_b39)).other W49 (Or.inl ne_b33_b39))
    have f53 := (((((own_stak f28 K29 (allS (own_exns f25) all0)).ext E33).ext E39).wr W47).wr W49)
    obtain ⟨_, T54, Lc54, X54, hQ54, st54⟩ := own_special (W := 1) (y := mN4) X49 hx hZ rfl hown (hw _ (List.mem_of_getElem? (i := 5) rfl)) (hw _ (List.mem_of_getElem? (i := 6) rfl)) (hw _ (List.mem_of_getElem? (i := 7) rfl)) (hw _ (List.mem_of_getElem? (i := 3) rfl)) (by decide) (rmSi2_2 l Z av0 hw [] b33 b39 k39 wC (nar .char ((p2 &&& (255 : Int32))).toUInt32.toUInt16.toUInt32.toInt32) (nar .char (99 : Int32)) h49 n0 Z49 f50 f51 f52 ge_b33 V49 f53 hw0 (own_ch p2) (by decide)) (by decide) (by decide) (g := (mkF m 133 #[iv p0, iv p1, iv p2, iv p3, iv (((1 : Int32) + (0 : Int32))), iv (0 : Int32), iv (0 : Int32), rv b3, rv b14, .unset, .unset, .unset, .unset, .unset, .unset] [(.ref b39), (.ref b33), (.ref b33)])) rfl (by rw [hml]; rfl) (a := b33) (argsL := [(.ref b39)]) (rest := [(.ref b33)]) (lenOf pd__C_V rfl) rfl (by show 2 * 0 + _ ≤ _; exact Nat.le_of_eq rfl) (hb hby at_133) rfl e49 (by decide : 8 + 1 ≤ _) (by decide : 22 + 2 ≤ _)
    obtain ⟨rfl, N54q, K54, FC54, b54, kb54, FV54, V54, gb54⟩ := hQ54
    have N54 := Fr.app N49 N54q
    have e54 : T54.heap = T54.heap := rfl
    have f55 := (((f40.ext E39).other W47 ne_b13_b39).other W49 ne_b13_b39)
    have ne_b13_b54 : b13 ≠ b54 := Nat.ne_of_lt (Nat.lt_of_lt_of_le f55.lt gb54)
    have f56 := (((f41.ext E39).wr W47).wr W49)
    have ne_b14_b54 : b14 ≠ b54 := Nat.ne_of_lt (Nat.lt_of_lt_of_le f56.lt gb54)
    have f57 := (((f42.ext E39).other W47 ne_b17_b39).other W49 ne_b17_b39)
    have ne_b17_b54 : b17 ≠ b54 := Nat.ne_of_lt (Nat.lt_of_lt_of_le f57.lt gb54)
    have f58 := (((f43.ext E39).other W47 ne_b29_b39).other W49 ne_b29_b39)
    have ne_b29_b54 : b29 ≠ b54 := Nat.ne_of_lt (Nat.lt_of_lt_of_le f58.lt gb54)
    have f59 := (((f44.ext E39).wr W47).wr W49)
    have ne_b3_b54 : b3 ≠ b54 := Nat.ne_of_lt (Nat.lt_of_lt_of_le f59.lt gb54)
    have ne_b33_b54 : b33 ≠ b54 := Nat.ne_of_lt (Nat.lt_of_lt_of_le f50.lt gb54)
    have ne_b39_b54 : b39 ≠ b54 := Nat.ne_of_lt (Nat.lt_of_lt_of_le V49.lt gb54)
    have f60 := (((f45.ext E39).other W47 ne_b4_b39).other W49 ne_b4_b39)
    have ne_b4_b54 : b4 ≠ b54 := Nat.ne_of_lt (Nat.lt_of_lt_of_le f60.lt gb54)
    have ge_b54 : n0 ≤ b54 := Nat.le_trans Z49 gb54
    have sz_b54 : h0.size ≤ b54 := Nat.le_trans K49.1 gb54
    have Zk54 : n0 ≤ T54.heap.size := Nat.le_trans Z49 K54.1
    have Kk54 : Keep h0 T54.heap [] := K49.trans K54 (allS (Or.inr sz_b33) all0)
    obtain ⟨T61, h61, k61, X61, e61, E61, A61, O61, st61⟩ := newR X54 hx hZ hown (hw _ (List.mem_of_getElem? (i := 1) rfl)) (hw _ (List.mem_of_getElem? (i := 31) rfl)) e54 (g := (mkF m 140 #[iv p0, iv p1, iv p2, iv p3, iv (((1 : Int32) + (0 : Int32))), iv (0 : Int32), iv (0 : Int32), rv b3, rv b14, rv b33, .unset, .unset, .unset, .unset, .unset] [(.int ((1 : Int32) + (0 : Int32)))])) rfl (hb hby at_140) rfl (by decide) (cap := 1) (by decide) (by decide) (by decide) (by decide)
    obtain ⟨b61, g61⟩ : ∃ z, z = T54.heap.size := ⟨_, rfl⟩
    rw [← g61] at A61 st61
    have f62 := (f55.keep K54 (ninS ne_b13_b33 nin0))
    have ne_b13_b61 : b13 ≠ b61 := Nat.ne_of_lt (Nat.lt_of_lt_of_le f62.lt (Nat.le_of_eq g61.symm))
    have f63 := (f56.keep K54)
    have ne_b14_b61 : b14 ≠ b61 := Nat.ne_of_lt (Nat.lt_of_lt_of_le f63.lt (Nat.le_of_eq g61.symm))
    have f64 := (f57.keep K54 (ninS ne_b17_b33 nin0))
    have ne_b17_b61 : b17 ≠ b61 := Nat.ne_of_lt (Nat.lt_of_lt_of_le f64.lt (Nat.le_of_eq g61.symm))
    have f65 := (f58.keep K54 (ninS ne_b29_b33 nin0))
    have ne_b29_b61 : b29 ≠ b61 := Nat.ne_of_lt (Nat.lt_of_lt_of_le f65.lt (Nat.le_of_eq g61.symm))
    have f66 := (f59.keep K54)
    have ne_b3_b61 : b3 ≠ b61 := Nat.ne_of_lt (Nat.lt_of_lt_of_le f66.lt (Nat.le_of_eq g61.symm))
    have f67 := (f50.keep K54)
    have ne_b33_b61 : b33 ≠ b61 := Nat.ne_of_lt (Nat.lt_of_lt_of_le f67.lt (Nat.le_of_eq g61.symm))
    have f68 := (V49.keep K54 (ninS (Ne.symm ne_b33_b39) nin0))
    have ne_b39_b61 : b39 ≠ b61 := Nat.ne_of_lt (Nat.lt_of_lt_of_le f68.lt (Nat.le_of_eq g61.symm))
    have f69 := (f60.keep K54 (ninS ne_b4_b33 nin0))
    have ne_b4_b61 : b4 ≠ b61 := Nat.ne_of_lt (Nat.lt_of_lt_of_le f69.lt (Nat.le_of_eq g61.symm))
    have ne_b54_b61 : b54 ≠ b61 := Nat.ne_of_lt (Nat.lt_of_lt_of_le V54.lt (Nat.le_of_eq g61.symm))
    have ge_b61 : n0 ≤ b61 := Nat.le_trans Zk54 (Nat.le_of_eq g61.symm)
    have sz_b61 : h0.size ≤ b61 := Nat.le_trans Kk54.1 (Nat.le_of_eq g61.symm)
    have Z61 : n0 ≤ h61.size := Nat.le_trans Zk54 E61.1
    have K61 : Keep h0 h61 [] := Kk54.ext E61
    have V61 : Arv Z h61 b61 k61 (.object "java/lang/String") ((1 : Int32) + (0 : Int32)) [.null] .null := (Arv.new A61 (by decide)).pad (pad_rep [] .null 1)
    obtain ⟨cl70, Ar70, qk70, Sz70, Ng70, Hs70, Gs70⟩ := id V61
    have hin70 : ¬ ((0 : Int32) < 0 ∨ cl70.slots.size ≤ ((0 : Int32)).toNatClampNeg) := inb_of Sz70 ⟨by decide, by decide⟩
    have f71 := (f66.ext E61)
    obtain ⟨T72, h72, X72, e72, W72, st72⟩ := stR X61 hx hZ e61 Ar70 (j := (0 : Int32)) hin70 rfl (Sto.ofV Ar70 qk70 O61 (Ins.self f71)) (g := (mkF m 150 #[iv p0, iv p1, iv p2, iv p3, iv (((1 : Int32) + (0 : Int32))), iv (0 : Int32), iv (0 : Int32), rv b3, rv b14, rv b33, rv b61, .unset, .unset, .unset, .unset] [(.ref b3), (.int (0 : Int32)), (.ref b61)])) rfl rfl (hb hby at_150)
    have N72 := Fr.snoc X72 N54 ge_b61
    have Z72 : n0 ≤ h72.size := Nat.le_trans Z61 (Nat.le_of_eq W72.size.symm)
    have K72 : Keep h0 h72 [] := K61.wr W72 (Or.inr sz_b61)
    have V72 : Arv Z h72 b61 k61 (.object "java/lang/String") ((1 : Int32) + (0 : Int32)) [(.ref b3)] .null := Arv.set Ar70 qk70 Sz70 Ng70 Hs70 Gs70 rfl W72 0 rfl (Nat.le_of_ble_eq_true rfl)
    obtain ⟨T73, h73, X73, e73, E73, A73, D73, -, st73⟩ := newO X72 hx hZ hown (hw _ (List.mem_of_getElem? (i := 32) rfl)) (hw _ (List.mem_of_getElem? (i := 33) rfl)) (hw _ (List.mem_of_getElem? (i := 34) rfl)) e72 (g := (mkF m 175 #[iv p0, iv p1, iv p2, iv p3, iv (((1 : Int32) + (0 : Int32))), iv (0 : Int32), iv (0 : Int32), rv b3, rv b14, rv b33, rv b61, .unset, .unset, .unset, .unset] [])) rfl (hb hby at_175) (by decide) (by decide)
    obtain ⟨b73, g73⟩ : ∃ z, z = h72.size := ⟨_, rfl⟩
    rw [← g73] at A73 D73 st73
    have f74 := ((f62.ext E61).other W72 ne_b13_b61)
    have ne_b13_b73 : b13 ≠ b73 := Nat.ne_of_lt (Nat.lt_of_lt_of_le f74.lt (Nat.le_of_eq g73.symm))
    have f75 := ((f63.ext E61).wr W72)
    have ne_b14_b73 : b14 ≠ b73 := Nat.ne_of_lt (Nat.lt_of_lt_of_le f75.lt (Nat.le_of_eq g73.symm))
    have f76 := ((f64.ext E61).other W72 ne_b17_b61)
    have ne_b17_b73 : b17 ≠ b73 := Nat.ne_of_lt (Nat.lt_of_lt_of_le f76.lt (Nat.le_of_eq g73.symm))
    have f77 := ((f65.ext E61).other W72 ne_b29_b61)
    have ne_b29_b73 : b29 ≠ b73 := Nat.ne_of_lt (Nat.lt_of_lt_of_le f77.lt (Nat.le_of_eq g73.symm))
    have f78 := (f71.wr W72)
    have ne_b3_b73 : b3 ≠ b73 := Nat.ne_of_lt (Nat.lt_of_lt_of_le f78.lt (Nat.le_of_eq g73.symm))
    have f79 := ((f67.ext E61).wr W72)
    have ne_b33_b73 : b33 ≠ b73 := Nat.ne_of_lt (Nat.lt_of_lt_of_le f79.lt (Nat.le_of_eq g73.symm))
    have f80 := ((f68.ext E61).other W72 ne_b39_b61)
    have ne_b39_b73 : b39 ≠ b73 := Nat.ne_of_lt (Nat.lt_of_lt_of_le f80.lt (Nat.le_of_eq g73.symm))
    have f81 := ((f69.ext E61).other W72 ne_b4_b61)
    have ne_b4_b73 : b4 ≠ b73 := Nat.ne_of_lt (Nat.lt_of_lt_of_le f81.lt (Nat.le_of_eq g73.symm))
    have f82 := ((V54.ext E61).other W72 ne_b54_b61)
    have ne_b54_b73 : b54 ≠ b73 := Nat.ne_of_lt (Nat.lt_of_lt_of_le f82.lt (Nat.le_of_eq g73.symm))
    have ne_b61_b73 : b61 ≠ b73 := Nat.ne_of_lt (Nat.lt_of_lt_of_le V72.lt (Nat.le_of_eq g73.symm))
    have ge_b73 : n0 ≤ b73 := Nat.le_trans Z72 (Nat.le_of_eq g73.symm)
    have sz_b73 : h0.size ≤ b73 := Nat.le_trans K72.1 (Nat.le_of_eq g73.symm)
    have Z73 : n0 ≤ h73.size := Nat.le_trans Z72 E73.1
    have K73 : Keep h0 h73 [] := K72.ext E73
    have F73_arguments : Fld Z h73 b73 "com/example/steady_courier/steadycourier/OptionReader" "arguments" "[Ljava/lang/String;" .null := D73 (Or.inr (hw _ (List.mem_of_getElem? (i := 40) rfl))) (ty := (.array (.object "java/lang/String"))) (by decide)
    have F73_next : Fld Z h73 b73 "com/example/steady_courier/steadycourier/OptionReader" "next" "I" (.int (0 : Int32)) := D73 (Or.inl (hw _ (List.mem_of_getElem? (i := 47) rfl))) (ty := .int) (by decide)
    obtain ⟨_, T83, Lc83, X83, hQ83, st83⟩ := own_special (W := 1) (y := mN5) X73 hx hZ rfl hown (hw _ (List.mem_of_getElem? (i := 35) rfl)) (hw _ (List.mem_of_getElem? (i := 36) rfl)) (hw _ (List.mem_of_getElem? (i := 37) rfl)) (hw _ (List.mem_of_getElem? (i := 34) rfl)) (by decide) (rmInit l Z av0 hw [] b73 b61 h73 n0 Z73 A73 F73_arguments F73_next ge_b73) (by decide) (by decide) (g := (mkF m 181 #[iv p0, iv p1, iv p2, iv p3, iv (((1 : Int32) + (0 : Int32))), iv (0 : Int32), iv (0 : Int32), rv b3, rv b14, rv b33, rv b61, .unset, .unset, .unset, .unset] [(.ref b61), (.ref b73), (.ref b73)])) rfl (by rw [hml]; rfl) (a := b73) (argsL := [(.ref b61)]) (rest := [(.ref b73)]) (lenOf pd__Ljava_lang_String_V rfl) rfl (by show 2 * 0 + _ ≤ _; exact Nat.le_of_eq rfl) (hb hby at_181) rfl e73 (by decide : 11 + 0 ≤ _) (by decide : 27 + 0 ≤ _)
    obtain ⟨rfl, N83q, K83, FA83, FN83⟩ := hQ83
    have N83 := Fr.app N72 N83q
    have e83 : T83.heap = T83.heap := rfl
    have Zk83 : n0 ≤ T83.heap.size := Nat.le_trans Z73 K83.1
    have Kk83 : Keep h0 T83.heap [] := K73.trans K83 (allS (Or.inr sz_b73) all0)
    have f84 := ((V72.ext E73).keep K83 (ninS ne_b61_b73 nin0))
    have f86 := (A73.keep K83)
    obtain ⟨_, T85, Lc85, X85, hQ85, st85⟩ := own_virtual (W := 0) (y := mN6) (z := mN6) X83 hx hZ hown (hw _ (List.mem_of_getElem? (i := 41) rfl)) (hw _ (List.mem_of_getElem? (i := 42) rfl)) (notFace_of_selects (args := #[]) (mvT hZ (hw _ (List.mem_of_getElem? (i := 44) rfl)))) (hw _ (List.mem_of_getElem? (i := 44) rfl)) (hw _ (List.mem_of_getElem? (i := 43) rfl)) (hw _ (List.mem_of_getElem? (i := 45) rfl)) (hw _ (List.mem_of_getElem? (i := 34) rfl)) (by decide) (rmHas l Z av0 hw [] b73 b61 k61 ((1 : Int32) + (0 : Int32)) [(.ref b3)] (0 : Int32) T83.heap n0 Zk83 FA83 FN83 f84) (by decide) (by decide) f86 (g := (mkF m 188 #[iv p0, iv p1, iv p2, iv p3, iv (((1 : Int32) + (0 : Int32))), iv (0 : Int32), iv (0 : Int32), rv b3, rv b14, rv b33, rv b61, rv b73, .unset, .unset, .unset] [(.ref b73)])) rfl (by rw [hml]; rfl) (argsL := []) (rest := []) (lenOf pd__Z rfl) rfl (by show 2 * 0 + _ ≤ _; exact Nat.le_of_eq rfl) (hb hby at_188) rfl e83 (by decide : 11 + 0 ≤ _) (by decide : 27 + 0 ≤ _)
    obtain ⟨rfl, N85q, hh85⟩ := hQ85
    have N85 := Fr.app N83 N85q
    have e85 : T85.heap = T83.heap := hh85
    obtain ⟨_, T87, Lc87, X87, hQ87, st87⟩ := own_virtual (W := 0) (y := mN7) (z := mN7) X85 hx hZ hown (hw _ (List.mem_of_getElem? (i := 48) rfl)) (hw _ (List.mem_of_getElem? (i := 49) rfl)) (notFace_of_selects (args := #[]) (mvT hZ (hw _ (List.mem_of_getElem? (i := 51) rfl)))) (hw _ (List.mem_of_getElem? (i := 51) rfl)) (hw _ (List.mem_of_getElem? (i := 50) rfl)) (hw _ (List.mem_of_getElem? (i := 52) rfl)) (hw _ (List.mem_of_getElem? (i := 34) rfl)) (by decide) (rmOpt l Z av0 hw [] b73 b61 k61 ((1 : Int32) + (0 : Int32)) [(.ref b3)] (0 : Int32) b3 T83.heap n0 Zk83 FA83 FN83 f84 f86 ge_b73 (Ne.symm ne_b61_b73) (by decide) rfl) (by decide) (by decide) f86 (g := (mkF m 198 #[iv p0, iv p1, iv p2, iv p3, iv (((1 : Int32) + (0 : Int32))), iv (0 : Int32), iv (0 : Int32), rv b3, rv b14, rv b33, rv b61, rv b73, .unset, .unset, .unset] [(.ref b73)])) rfl (by rw [hml]; rfl) (argsL := []) (rest := []) (lenOf pd__Ljava_lang_String_ rfl) rfl (by show 2 * 0 + _ ≤ _; exact Nat.le_of_eq rfl) (hb hby at_198) rfl e85 (by decide : 11 + 0 ≤ _) (by decide : 27 + 0 ≤ _)
    obtain ⟨rfl, N87q, K87, FN87, FA87⟩ := hQ87
    have N87 := Fr.app N85 N87q
    have e87 : T87.heap = T87.heap := rfl
    have Zk87 : n0 ≤ T87.heap.size := Nat.le_trans Zk83 K87.1
    have Kk87 : Keep h0 T87.heap [] := Kk83.trans K87 (allS (Or.inr sz_b73) all0)
    have f89 := (((f78.ext E73).keep K83).keep K87)
    obtain ⟨_, T88, Lc88, X88, hQ88, st88⟩ := own_virtual (W := 0) (y := mN9) (z := mN9) X87 hx hZ hown (hw _ (List.mem_of_getElem? (i := 53) rfl)) (hw _ (List.mem_of_getElem? (i := 54) rfl)) (notFace_of_selects (args := #[]) (mvT hZ (hw _ (List.mem_of_getElem? (i := 56) rfl)))) (hw _ (List.mem_of_getElem? (i := 56) rfl)) (hw _ (List.mem_of_getElem? (i := 55) rfl)) (hw _ (List.mem_of_getElem? (i := 57) rfl)) (hw _ (List.mem_of_getElem? (i := 3) rfl)) (by decide) (rmSame l Z av0 hw [] b3 T87.heap n0 Zk87 ) (by decide) (by decide) f89 (g := (mkF m 207 #[iv p0, iv p1, iv p2, iv p3, iv (((1 : Int32) + (0 : Int32))), iv (0 : Int32), iv (0 : Int32), rv b3, rv b14, rv b33, rv b61, rv b73, rv b3, .unset, .unset] [(.ref b3), (.ref b3)])) rfl (by rw [hml]; rfl) (argsL := [(.ref b3)]) (rest := []) (lenOf pd__Ljava_lang_Object_Z rfl) rfl (by show 2 * 0 + _ ≤ _; exact Nat.le_of_eq rfl) (hb hby at_207) rfl e87 (by decide : 11 + 0 ≤ _) (by decide : 27 + 0 ≤ _)
    obtain ⟨rfl, N88q, hh88⟩ := hQ88
    have N88 := Fr.app N87 N88q
    have e88 : T88.heap = T87.heap := hh88
    have f90 := (f84.keep K87 (ninS ne_b61_b73 nin0))
    have f92 := (f86.keep K87)
    obtain ⟨_, T91, Lc91, X91, hQ91, st91⟩ := own_virtual (W := 0) (y := mN6) (z := mN6) X88 hx hZ hown (hw _ (List.mem_of_getElem? (i := 41) rfl)) (hw _ (List.mem_of_getElem? (i := 42) rfl)) (notFace_of_selects (args := #[]) (mvT hZ (hw _ (List.mem_of_getElem? (i := 44) rfl)))) (hw _ (List.mem_of_getElem? (i := 44) rfl)) (hw _ (List.mem_of_getElem? (i := 43) rfl)) (hw _ (List.mem_of_getElem? (i := 45) rfl)) (hw _ (List.mem_of_getElem? (i := 34) rfl)) (by decide) (rmHas l Z av0 hw [] b73 b61 k61 ((1 : Int32) + (0 : Int32)) [(.ref b3)] ((0 : Int32) + (1 : Int32)) T87.heap n0 Zk87 FA87 FN87 f90) (by decide) (by decide) f92 (g := (mkF m 217 #[iv p0, iv p1, iv p2, iv p3, iv (((1 : Int32) + (0 : Int32))), iv (0 : Int32), iv (0 : Int32), rv b3, rv b14, rv b33, rv b61, rv b73, rv b3, .unset, .unset] [(.ref b73)])) rfl (by rw [hml]; rfl) (argsL := []) (rest := []) (lenOf pd__Z rfl) rfl (by show 2 * 0 + _ ≤ _; exact Nat.le_of_eq rfl) (hb hby at_217) rfl e88 (by decide : 11 + 0 ≤ _) (by decide : 27 + 0 ≤ _)
    obtain ⟨rfl, N91q, hh91⟩ := hQ91
    have N91 := Fr.app N88 N91q
    have e91 : T91.heap = T87.heap := hh91
    have S93 : ∀ t, Steps p.tables e below (T91.setTop (mkF m 243 #[iv p0, iv p1, iv p2, iv p3, iv (((1 : Int32) + (0 : Int32))), iv (0 : Int32), iv (0 : Int32), rv b3, rv b14, rv b33, rv b61, rv b73, rv b3, .unset, .unset] [(.int (1 : Int32))])) t → Steps p.tables e below (s₁.setTop (mkF m 0 #[iv p0, iv p1, iv p2, iv p3, .unset, .unset, .unset, .unset, .unset, .unset, .unset, .unset, .unset, .unset, .unset] [])) t := fun t k => S1 t (by
      show Steps p.tables e below (s₁.setTop (mkF m 16 #[iv p0, iv p1, iv p2, iv p3, iv (((1 : Int32) + (0 : Int32))), .unset, .unset, .unset, .unset, .unset, .unset, .unset, .unset, .unset, .unset] [(.int ((XT.ushr p3 (8 : Int32)) &&& (1 : Int32)))])) _
      refine XS.ifYes X0.here hx rfl (pc0 := 16) (pc' := 23) rfl (hb hby at_16) rfl (XT.i0_eq_t hc16_2) (by decide) (by decide) ?_
      refine XT.iconstV X0.here hx rfl (0 : Int32) (hb hby at_23) (by decide) ?_
      refine XS.istore X0.here hx rfl (hb hby at_24) rfl (l' := #[iv p0, iv p1, iv p2, iv p3, iv (((1 : Int32) + (0 : Int32))), iv (0 : Int32), .unset, .unset, .unset, .unset, .unset, .unset, .unset, .unset, .unset]) rfl ?_
      refine XS.iloadN X0.here hx rfl (hb hby at_26) rfl ?_
      show Steps p.tables e below (s₁.setTop (mkF m 27 #[iv p0, iv p1, iv p2, iv p3, iv (((1 : Int32) + (0 : Int32))), iv (0 : Int32), .unset, .unset, .unset, .unset, .unset, .unset, .unset, .unset, .unset] [(.int p3)])) _
      refine XT.bipushV X0.here hx rfl (9 : Int32) (hb hby at_27) (by decide) ?_
      refine XT.iushr X0.here hx rfl (hb hby at_29) rfl ?_
      refine XT.iconstV X0.here hx rfl (1 : Int32) (hb hby at_30) (by decide) ?_
      refine XS.iand X0.here hx rfl (hb hby at_31) rfl ?_
      show Steps p.tables e below (s₁.setTop (mkF m 32 #[iv p0, iv p1, iv p2, iv p3, iv (((1 : Int32) + (0 : Int32))), iv (0 : Int32), .unset, .unset, .unset, .unset, .unset, .unset, .unset, .unset, .unset] [(.int ((XT.ushr p3 (9 : Int32)) &&& (1 : Int32)))])) _
      rw [he]
      show Steps p.tables e below (s₁.setTop (mkF m 32 #[iv p0, iv p1, iv p2, iv p3, iv (((1 : Int32) + (0 : Int32))), iv (0 : Int32), .unset, .unset, .unset, .unset, .unset, .unset, .unset, .unset, .unset] [(.int (0 : Int32))])) _
      refine XS.ifYes X0.here hx rfl (pc0 := 32) (pc' := 39) rfl (hb hby at_32) rfl (XT.i0_eq_t (by decide)) (by decide) (by decide) ?_
      show Steps p.tables e below (s₁.setTop (mkF m 39 #[iv p0, iv p1, iv p2, iv p3, iv (((1 : Int32) + (0 : Int32))), iv (0 : Int32), .unset, .unset, .unset, .unset, .unset, .unset, .unset, .unset, .unset] [])) _
      refine XT.iconstV X0.here hx rfl (0 : Int32) (hb hby at_39) (by decide) ?_
      refine XS.istore X0.here hx rfl (hb hby at_40) rfl (l' := #[iv p0, iv p1, iv p2, iv p3, iv (((1 : Int32) + (0 : Int32))), iv (0 : Int32), iv (0 : Int32), .unset, .unset, .unset, .unset, .unset, .unset, .unset, .unset]) rfl ?_
      refine XS.iload X0.here hx rfl (hb hby at_42) rfl ?_
      refine XS.ifYes X0.here hx rfl (pc0 := 44) (pc' := 60) rfl (hb hby at_44) rfl (XT.i0_eq_t (by decide)) (by decide) (by decide) ?_
      refine st3 _ ?_
      refine XS.dup X3.here hx rfl (hb hby at_63) rfl rfl ?_
      show Steps p.tables e below (T3.setTop (mkF m 64 #[iv p0, iv p1, iv p2, iv p3, iv (((1 : Int32) + (0 : Int32))), iv (0 : Int32), iv (0 : Int32), .unset, .unset, .unset, .unset, .unset, .unset, .unset, .unset] [(.ref b3), (.ref b3)])) _
      refine XT.iconstV X3.here hx rfl (2 : Int32) (hb hby at_64) (by decide) ?_
      refine st4 _ ?_
      refine XS.dup X4.here hx rfl (hb hby at_67) rfl rfl ?_
      refine XT.iconstV X4.here hx rfl (0 : Int32) (hb hby at_68) (by decide) ?_
      refine XS.iloadN X4.here hx rfl (hb hby at_69) rfl ?_
      refine XT.sipushV X4.here hx rfl (255 : Int32) (hb hby at_70) (by decide) ?_
      show Steps p.tables e below (T4.setTop (mkF m 73 #[iv p0, iv p1, iv p2, iv p3, iv (((1 : Int32) + (0 : Int32))), iv (0 : Int32), iv (0 : Int32), .unset, .unset, .unset, .unset, .unset, .unset, .unset, .unset] [(.int (255 : Int32)), (.int p0), (.int (0 : Int32)), (.ref b4), (.ref b4), (.ref b3), (.ref b3)])) _
      refine XS.iand X4.here hx rfl (hb hby at_73) rfl ?_
      refine XT.i2c X4.here hx rfl (hb hby at_74) rfl ?_
      refine st6 _ ?_
      refine XS.dup X6.here hx rfl (hb hby at_76) rfl rfl ?_
      refine XT.iconstV X6.here hx rfl (1 : Int32) (hb hby at_77) (by decide) ?_
      refine XT.bipushV X6.here hx rfl (97 : Int32) (hb hby at_78) (by decide) ?_
      show Steps p.tables e below (T6.setTop (mkF m 80 #[iv p0, iv p1, iv p2, iv p3, iv (((1 : Int32) + (0 : Int32))), iv (0 : Int32), iv (0 : Int32), .unset, .unset, .unset, .unset, .unset, .unset, .unset, .unset] [(.int (97 : Int32)), (.int (1 : Int32)), (.ref b4), (.ref b4), (.ref b3), (.ref b3)])) _
      refine st8 _ ?_
      refine st13 _ ?_
      refine XS.astore X13.here hx rfl (hb hby at_84) rfl rfl (l' := #[iv p0, iv p1, iv p2, iv p3, iv (((1 : Int32) + (0 : Int32))), iv (0 : Int32), iv (0 : Int32), rv b3, .unset, .unset, .unset, .unset, .unset, .unset, .unset]) rfl ?_
      refine st14 _ ?_
      refine XS.dup X14.here hx rfl (hb hby at_89) rfl rfl ?_
      refine XT.iconstV X14.here hx rfl (2 : Int32) (hb hby at_90) (by decide) ?_
      show Steps p.tables e below (T14.setTop (mkF m 91 #[iv p0, iv p1, iv p2, iv p3, iv (((1 : Int32) + (0 : Int32))), iv (0 : Int32), iv (0 : Int32), rv b3, .unset, .unset, .unset, .unset, .unset, .unset, .unset] [(.int (2 : Int32)), (.ref b14), (.ref b14)])) _
      refine st17 _ ?_
      refine XS.dup X17.here hx rfl (hb hby at_93) rfl rfl ?_
      refine XT.iconstV X17.here hx rfl (0 : Int32) (hb hby at_94) (by decide) ?_
      refine XS.iloadN X17.here hx rfl (hb hby at_95) rfl ?_
      refine XT.sipushV X17.here hx rfl (255 : Int32) (hb hby at_96) (by decide) ?_
      refine XS.iand X17.here hx rfl (hb hby at_99) rfl ?_
      show Steps p.tables e below (T17.setTop (mkF m 100 #[iv p0, iv p1, iv p2, iv p3, iv (((1 : Int32) + (0 : Int32))), iv (0 : Int32), iv (0 : Int32), rv b3, .unset, .unset, .unset, .unset, .unset, .unset, .unset] [(.int (p1 &&& (255 : Int32))), (.int (0 : Int32)), (.ref b17), (.ref b17), (.ref b14), (.ref b14)])) _
      refine XT.i2c X17.here hx rfl (hb hby at_100) rfl ?_
      refine st22 _ ?_
      refine XS.dup X22.here hx rfl (hb hby at_102) rfl rfl ?_
      refine XT.iconstV X22.here hx rfl (1 : Int32) (hb hby at_103) (by decide) ?_
      refine XT.bipushV X22.here hx rfl (98 : Int32) (hb hby at_104) (by decide) ?_
      refine st24 _ ?_
      show Steps p.tables e below (T24.setTop (mkF m 107 #[iv p0, iv p1, iv p2, iv p3, iv (((1 : Int32) + (0 : Int32))), iv (0 : Int32), iv (0 : Int32), rv b3, .unset, .unset, .unset, .unset, .unset, .unset, .unset] [(.ref b17), (.ref b14), (.ref b14)])) _
      refine st29 _ ?_
      refine XS.astore X29.here hx rfl (hb hby at_110) rfl rfl (l' := #[iv p0, iv p1, iv p2, iv p3, iv (((1 : Int32) + (0 : Int32))), iv (0 : Int32), iv (0 : Int32), rv b3, rv b14, .unset, .unset, .unset, .unset, .unset, .unset]) rfl ?_
      refine st33 _ ?_
      refine XS.dup X33.here hx rfl (hb hby at_115) rfl rfl ?_
      refine XT.iconstV X33.here hx rfl (2 : Int32) (hb hby at_116) (by decide) ?_
      refine st39 _ ?_
      show Steps p.tables e below (T39.setTop (mkF m 119 #[iv p0, iv p1, iv p2, iv p3, iv (((1 : Int32) + (0 : Int32))), iv (0 : Int32), iv (0 : Int32), rv b3, rv b14, .unset, .unset, .unset, .unset, .unset, .unset] [(.ref b39), (.ref b33), (.ref b33)])) _
      refine XS.dup X39.here hx rfl (hb hby at_119) rfl rfl ?_
      refine XT.iconstV X39.here hx rfl (0 : Int32) (hb hby at_120) (by decide) ?_
      refine XS.iloadN X39.here hx rfl (hb hby at_121) rfl ?_
      refine XT.sipushV X39.here hx rfl (255 : Int32) (hb hby at_122) (by decide) ?_
      refine XS.iand X39.here hx rfl (hb hby at_125) rfl ?_
      refine XT.i2c X39.here hx rfl (hb hby at_126) rfl ?_
      show Steps p.tables e below (T39.setTop (mkF m 127 #[iv p0, iv p1, iv p2, iv p3, iv (((1 : Int32) + (0 : Int32))), iv (0 : Int32), iv (0 : Int32), rv b3, rv b14, .unset, .unset, .unset, .unset, .unset, .unset] [(.int ((p2 &&& (255 : Int32))).toUInt32.toUInt16.toUInt32.toInt32), (.int (0 : Int32)), (.ref b39), (.ref b39), (.ref b33), (.ref b33)])) _
      refine st47 _ ?_
      refine XS.dup X47.here hx rfl (hb hby at_128) rfl rfl ?_
      refine XT.iconstV X47.here hx rfl (1 : Int32) (hb hby at_129) (by decide) ?_
      refine XT.bipushV X47.here hx rfl (99 : Int32) (hb hby at_130) (by decide) ?_
      refine st49 _ ?_
      refine st54 _ ?_
      show Steps p.tables e below (T54.setTop (mkF m 136 #[iv p0, iv p1, iv p2, iv p3, iv (((1 : Int32) + (0 : Int32))), iv (0 : Int32), iv (0 : Int32), rv b3, rv b14, .unset, .unset, .unset, .unset, .unset, .unset] [(.ref b33)])) _
      refine XS.astore X54.here hx rfl (hb hby at_136) rfl rfl (l' := #[iv p0, iv p1, iv p2, iv p3, iv (((1 : Int32) + (0 : Int32))), iv (0 : Int32), iv (0 : Int32), rv b3, rv b14, rv b33, .unset, .unset, .unset, .unset, .unset]) rfl ?_
      refine XS.iload X54.here hx rfl (hb hby at_138) rfl ?_
      refine st61 _ ?_
      refine XS.astore X61.here hx rfl (hb hby at_143) rfl rfl (l' := #[iv p0, iv p1, iv p2, iv p3, iv (((1 : Int32) + (0 : Int32))), iv (0 : Int32), iv (0 : Int32), rv b3, rv b14, rv b33, rv b61, .unset, .unset, .unset, .unset]) rfl ?_
      refine XS.aload X61.here hx rfl (hb hby at_145) rfl rfl ?_
      refine XT.iconstV X61.here hx rfl (0 : Int32) (hb hby at_147) (by decide) ?_
      show Steps p.tables e below (T61.setTop (mkF m 148 #[iv p0, iv p1, iv p2, iv p3, iv (((1 : Int32) + (0 : Int32))), iv (0 : Int32), iv (0 : Int32), rv b3, rv b14, rv b33, rv b61, .unset, .unset, .unset, .unset] [(.int (0 : Int32)), (.ref b61)])) _
      refine XS.aload X61.here hx rfl (hb hby at_148) rfl rfl ?_
      refine st72 _ ?_
      refine XS.iload X72.here hx rfl (hb hby at_151) rfl ?_
      refine XT.iconstV X72.here hx rfl (1 : Int32) (hb hby at_153) (by decide) ?_
      refine XS.icmpYes X72.here hx rfl (pc0 := 154) (pc' := 163) rfl (hb hby at_154) rfl (XT.ii_le_t (by decide)) (by decide) (by decide) ?_
      refine XS.iload X72.here hx rfl (hb hby at_163) rfl ?_
      show Steps p.tables e below (T72.setTop (mkF m 165 #[iv p0, iv p1, iv p2, iv p3, iv (((1 : Int32) + (0 : Int32))), iv (0 : Int32), iv (0 : Int32), rv b3, rv b14, rv b33, rv b61, .unset, .unset, .unset, .unset] [(.int ((1 : Int32) + (0 : Int32)))])) _
      refine XT.iconstV X72.here hx rfl (2 : Int32) (hb hby at_165) (by decide) ?_
      refine XS.icmpYes X72.here hx rfl (pc0 := 166) (pc' := 175) rfl (hb hby at_166) rfl (XT.ii_le_t (by decide)) (by decide) (by decide) ?_
      refine st73 _ ?_
      refine XS.dup X73.here hx rfl (hb hby at_178) rfl rfl ?_
      refine XS.aload X73.here hx rfl (hb hby at_179) rfl rfl ?_
      refine st83 _ ?_
      show Steps p.tables e below (T83.setTop (mkF m 184 #[iv p0, iv p1, iv p2, iv p3, iv (((1 : Int32) + (0 : Int32))), iv (0 : Int32), iv (0 : Int32), rv b3, rv b14, rv b33, rv b61, .unset, .unset, .unset, .unset] [(.ref b73)])) _
      refine XS.astore X83.here hx rfl (hb hby at_184) rfl rfl (l' := #[iv p0, iv p1, iv p2, iv p3, iv (((1 : Int32) + (0 : Int32))), iv (0 : Int32), iv (0 : Int32), rv b3, rv b14, rv b33, rv b61, rv b73, .unset, .unset, .unset]) rfl ?_
      refine XS.aload X83.here hx rfl (hb hby at_186) rfl rfl ?_
      refine st85 _ ?_
      refine XS.ifYes X85.here hx rfl (pc0 := 191) (pc' := 196) rfl (hb hby at_191) rfl (XT.i0_ne_t (by decide)) (by decide) (by decide) ?_
      refine XS.aload X85.here hx rfl (hb hby at_196) rfl rfl ?_
      refine st87 _ ?_
      show Steps p.tables e below (T87.setTop (mkF m 201 #[iv p0, iv p1, iv p2, iv p3, iv (((1 : Int32) + (0 : Int32))), iv (0 : Int32), iv (0 : Int32), rv b3, rv b14, rv b33, rv b61, rv b73, .unset, .unset, .unset] [(.ref b3)])) _
      refine XS.astore X87.here hx rfl (hb hby at_201) rfl rfl (l' := #[iv p0, iv p1, iv p2, iv p3, iv (((1 : Int32) + (0 : Int32))), iv (0 : Int32), iv (0 : Int32), rv b3, rv b14, rv b33, rv b61, rv b73, rv b3, .unset, .unset]) rfl ?_
      refine XS.aload X87.here hx rfl (hb hby at_203) rfl rfl ?_
      refine XS.aload X87.here hx rfl (hb hby at_205) rfl rfl ?_
      refine st88 _ ?_
      refine XS.ifYes X88.here hx rfl (pc0 := 210) (pc' := 215) rfl (hb hby at_210) rfl (XT.i0_ne_t (by decide)) (by decide) (by decide) ?_
      refine XS.aload X88.here hx rfl (hb hby at_215) rfl rfl ?_
      show Steps p.tables e below (T88.setTop (mkF m 217 #[iv p0, iv p1, iv p2, iv p3, iv (((1 : Int32) + (0 : Int32))), iv (0 : Int32), iv (0 : Int32), rv b3, rv b14, rv b33, rv b61, rv b73, rv b3, .unset, .unset] [(.ref b73)])) _
      refine st91 _ ?_
      refine XS.iload X91.here hx rfl (hb hby at_220) rfl ?_
      refine XT.iconstV X91.here hx rfl (1 : Int32) (hb hby at_222) (by decide) ?_
      refine XS.icmpYes X91.here hx rfl (pc0 := 223) (pc' := 230) rfl (hb hby at_223) rfl (XT.ii_le_t (by decide)) (by decide) (by decide) ?_
      refine XT.iconstV X91.here hx rfl (0 : Int32) (hb hby at_230) (by decide) ?_
      refine XS.icmpYes X91.here hx rfl (pc0 := 231) (pc' := 236) rfl (hb hby at_231) rfl (XT.ii_eq_t (by decide)) (by decide) (by decide) ?_
      show Steps p.tables e below (T91.setTop (mkF m 236 #[iv p0, iv p1, iv p2, iv p3, iv (((1 : Int32) + (0 : Int32))), iv (0 : Int32), iv (0 : Int32), rv b3, rv b14, rv b33, rv b61, rv b73, rv b3, .unset, .unset] [])) _
      refine XS.iload X91.here hx rfl (hb hby at_236) rfl ?_
      refine XT.iconstV X91.here hx rfl (1 : Int32) (hb hby at_238) (by decide) ?_
      refine XS.icmpNo X91.here hx rfl (hb hby at_239) rfl (XT.ii_ne_f (by decide)) ?_
      refine XT.iconstV X91.here hx rfl (1 : Int32) (hb hby at_242) (by decide) ?_
      exact k)
    obtain ⟨fs, hr, hrun, hended, hW, hsame⟩ := X91.leave (v := some (.int (1 : Int32))) (fun h => by rw [Bd.returns] at h; cases h)
    refine ⟨_, _, pre0 _ (S93 _ ?_), hrun, hended, _, _, rfl, ?_, ReturnedEndW.of_narrow ⟨_, rfl⟩ hW (hsame.mono (by decide) (by decide))⟩
    · exact retN X91 hx (t := .boolean) Bd.returns (by simp) (hb hby at_243) hr
    · show Qrm0 Z p0 p1 p2 p3 wC h0 n0 _ T91.heap _
      rw [e91]
      exact ⟨rfl, N91⟩
  · obtain ⟨T94, h94, X94, e94, E94, A94, D94, -, st94⟩ := newO X0 hx hZ hown (hw _ (List.mem_of_getElem? (i := 1) rfl)) (hw _ (List.mem_of_getElem? (i := 2) rfl)) (hw _ (List.mem_of_getElem? (i := 3) rfl)) e0 (g := (mkF m 60 #[iv p0, iv p1, iv p2, iv p3, iv (((1 : Int32) + (0 : Int32))), iv (1 : Int32), iv (0 : Int32), .unset, .unset, .unset, .unset, .unset, .unset, .unset, .unset] [])) rfl (hb hby at_60) (by decide) (by decide)
    obtain ⟨b94, g94⟩ : ∃ z, z = h0.size := ⟨_, rfl⟩
    rw [← g94] at A94 D94 st94
    have ge_b94 : n0 ≤ b94 := Nat.le_trans Z0 (Nat.le_of_eq g94.symm)
    have sz_b94 : h0.size ≤ b94 := Nat.le_of_eq g94.symm
    have Z94 : n0 ≤ h94.size := Nat.le_trans Z0 E94.1
    have K94 : Keep h0 h94 [] := (Keep.refl h0 []).ext E94
    have F94_coder : Fld Z h94 b94 "java/lang/String" "coder" "B" (.int (0 : Int32)) := D94 (Or.inr (hw _ (List.mem_of_getElem? (i := 28) rfl))) (ty := .byte) (by decide)
    have F94_value : Fld Z h94 b94 "java/lang/String" "value" "[B" .null := D94 (Or.inr (hw _ (List.mem_of_getElem? (i := 30) rfl))) (ty := (.array .byte)) (by decide)
    obtain ⟨T95, h95, k95, X95, e95, E95, A95, st95⟩ := newP X94 hx hZ (hw _ (List.mem_of_getElem? (i := 4) rfl)) e94 (g := (mkF m 65 #[iv p0, iv p1, iv p2, iv p3, iv (((1 : Int32) + (0 : Int32))), iv (1 : Int32), iv (0 : Int32), .unset, .unset, .unset, .unset, .unset, .unset, .unset, .unset] [(.int (2 : Int32)), (.ref b94), (.ref b94)])) rfl (hb hby at_65) rfl (by decide) (cap := 2) (by decide) (by decide) (by decide) (by decide)
    obtain ⟨b95, g95⟩ : ∃ z, z = h94.size := ⟨_, rfl⟩
    rw [← g95] at A95 st95
    have ne_b94_b95 : b94 ≠ b95 := Nat.ne_of_lt (Nat.lt_of_lt_of_le A94.lt (Nat.le_of_eq g95.symm))
    have ge_b95 : n0 ≤ b95 := Nat.le_trans Z94 (Nat.le_of_eq g95.symm)
    have sz_b95 : h0.size ≤ b95 := Nat.le_trans K94.1 (Nat.le_of_eq g95.symm)
    have Z95 : n0 ≤ h95.size := Nat.le_trans Z94 E95.1
    have K95 : Keep h0 h95 [] := K94.ext E95
    have V95 : Arv Z h95 b95 k95 .char (2 : Int32) [(.int (0 : Int32)), (.int (0 : Int32))] (.int (0 : Int32)) := (Arv.new A95 (by decide)).pad (pad_rep [] (.int (0 : Int32)) 2)
    obtain ⟨cl96, Ar96, qk96, Sz96, Ng96, Hs96, Gs96⟩ := id V95
    have hin96 : ¬ ((0 : Int32) < 0 ∨ cl96.slots.size ≤ ((0 : Int32)).toNatClampNeg) := inb_of Sz96 ⟨by decide, by decide⟩
    obtain ⟨T97, h97, X97, e97, W97, st97⟩ := stC X95 hx hZ e95 Ar96 (j := (0 : Int32)) hin96 (g := (mkF m 75 #[iv p0, iv p1, iv p2, iv p3, iv (((1 : Int32) + (0 : Int32))), iv (1 : Int32), iv (0 : Int32), .unset, .unset, .unset, .unset, .unset, .unset, .unset, .unset] [(.int ((p0 &&& (255 : Int32))).toUInt32.toUInt16.toUInt32.toInt32), (.int (0 : Int32)), (.ref b95), (.ref b95), (.ref b94), (.ref b94)])) rfl rfl (hb hby at_75)
    have N97 := Fr.snoc X97 N0 ge_b95
    have Z97 : n0 ≤ h97.size := Nat.le_trans Z95 (Nat.le_of_eq W97.size.symm)
    have K97 : Keep h0 h97 [] := K95.wr W97 (Or.inr sz_b95)
    have V97 : Arv Z h97 b95 k95 .char (2 : Int32) [(.int (nar .char ((p0 &&& (255 : Int32))).toUInt32.toUInt16.toUInt32.toInt32)), (.int (0 : Int32))] (.int (0 : Int32)) := Arv.set Ar96 qk96 Sz96 Ng96 Hs96 Gs96 (fits_nar_char _) W97 0 rfl (Nat.le_of_ble_eq_true rfl)
    obtain ⟨cl98, Ar98, qk98, Sz98, Ng98, Hs98, Gs98⟩ := id V97
    have hin98 : ¬ ((1 : Int32) < 0 ∨ cl98.slots.size ≤ ((1 : Int32)).toNatClampNeg) := inb_of Sz98 ⟨by decide, by decide⟩
    obtain ⟨T99, h99, X99, e99, W99, st99⟩ := stC X97 hx hZ e97 Ar98 (j := (1 : Int32)) hin98 (g := (mkF m 80 #[iv p0, iv p1, iv p2, iv p3, iv (((1 : Int32) + (0 : Int32))), iv (1 : Int32), iv (0 : Int32), .unset, .unset, .unset, .unset, .unset, .unset, .unset, .unset] [(.int (97 : Int32)), (.int (1 : Int32)), (.ref b95), (.ref b95), (.ref b94), (.ref b94)])) rfl rfl (hb hby at_80)
    have N99 := Fr.snoc X99 N97 ge_b95
    have Z99 : n0 ≤ h99.size := Nat.le_trans Z97 (Nat.le_of_eq W99.size.symm)
    have K99 : Keep h0 h99 [] := K97.wr W99 (Or.inr sz_b95)
    have V99 : Arv Z h99 b95 k95 .char (2 : Int32) [(.int (nar .char ((p0 &&& (255 : Int32))).toUInt32.toUInt16.toUInt32.toInt32)), (.int (nar .char (97 : Int32)))] (.int (0 : Int32)) := Arv.set Ar98 qk98 Sz98 Ng98 Hs98 Gs98 (fits_nar_char _) W99 1 rfl (Nat.le_of_ble_eq_true rfl)
    have f100 := (((A94.ext E95).wr W97).wr W99)
    have f101 := (((F94_value.ext E95).other W97 (Or.inl ne_b94_b95)).other W99 (Or.inl ne_b94_b95))
    have f102 := (((F94_coder.ext E95).other W97 (Or.inl ne_b94_b95)).other W99 (Or.inl ne_b94_b95))
    have f103 := ((((hS.ext E94).ext E95).wr W97).wr W99)
    obtain ⟨_, T104, Lc104, X104, hQ104, st104⟩ := own_special (W := 1) (y := mN4) X99 hx hZ rfl hown (hw _ (List.mem_of_getElem? (i := 5) rfl)) (hw _ (List.mem_of_getElem? (i := 6) rfl)) (hw _ (List.mem_of_getElem? (i := 7) rfl)) (hw _ (List.mem_of_getElem? (i := 3) rfl)) (by decide) (rmSi2_2 l Z av0 hw [] b94 b95 k95 wC (nar .char ((p0 &&& (255 : Int32))).toUInt32.toUInt16.toUInt32.toInt32) (nar .char (97 : Int32)) h99 n0 Z99 f100 f101 f102 ge_b94 V99 f103 hw0 (own_ch p0) (by decide)) (by decide) (by decide) (g := (mkF m 81 #[iv p0, iv p1, iv p2, iv p3, iv (((1 : Int32) + (0 : Int32))), iv (1 : Int32), iv (0 : Int32), .unset, .unset, .unset, .unset, .unset, .unset, .unset, .unset] [(.ref b95), (.ref b94), (.ref b94)])) rfl (by rw [hml]; rfl) (a := b94) (argsL := [(.ref b95)]) (rest := [(.ref b94)]) (lenOf pd__C_V rfl) rfl (by show 2 * 0 + _ ≤ _; exact Nat.le_of_eq rfl) (hb hby at_81) rfl e99 (by decide : 2 + 1 ≤ _) (by decide : 6 + 2 ≤ _)
    obtain ⟨rfl, N104q, K104, FC104, b104, kb104, FV104, V104, gb104⟩ := hQ104
    have N104 := Fr.app N99 N104q
    have e104 : T104.heap = T104.heap := rfl
    have ne_b94_b104 : b94 ≠ b104 := Nat.ne_of_lt (Nat.lt_of_lt_of_le f100.lt gb104)
    have ne_b95_b104 : b95 ≠ b104 := Nat.ne_of_lt (Nat.lt_of_lt_of_le V99.lt gb104)
    have ge_b104 : n0 ≤ b104 := Nat.le_trans Z99 gb104
    have sz_b104 : h0.size ≤ b104 := Nat.le_trans K99.1 gb104
    have Zk104 : n0 ≤ T104.heap.size := Nat.le_trans Z99 K104.1
    have Kk104 : Keep h0 T104.heap [] := K99.trans K104 (allS (Or.inr sz_b94) all0)
    obtain ⟨T105, h105, X105, e105, E105, A105, D105, -, st105⟩ := newO X104 hx hZ hown (hw _ (List.mem_of_getElem? (i := 1) rfl)) (hw _ (List.mem_of_getElem? (i := 2) rfl)) (hw _ (List.mem_of_getElem? (i := 3) rfl)) e104 (g := (mkF m 86 #[iv p0, iv p1, iv p2, iv p3, iv (((1 : Int32) + (0 : Int32))), iv (1 : Int32), iv (0 : Int32), rv b94, .unset, .unset, .unset, .unset, .unset, .unset, .unset] [])) rfl (hb hby at_86) (by decide) (by decide)
    obtain ⟨b105, g105⟩ : ∃ z, z = T104.heap.size := ⟨_, rfl⟩
    rw [← g105] at A105 D105 st105
    have ne_b104_b105 : b104 ≠ b105 := Nat.ne_of_lt (Nat.lt_of_lt_of_le V104.lt (Nat.le_of_eq g105.symm))
    have f106 := (f100.keep K104)
    have ne_b94_b105 : b94 ≠ b105 := Nat.ne_of_lt (Nat.lt_of_lt_of_le f106.lt (Nat.le_of_eq g105.symm))
    have f107 := (V99.keep K104 (ninS (Ne.symm ne_b94_b95) nin0))
    have ne_b95_b105 : b95 ≠ b105 := Nat.ne_of_lt (Nat.lt_of_lt_of_le f107.lt (Nat.le_of_eq g105.symm))
    have ge_b105 : n0 ≤ b105 := Nat.le_trans Zk104 (Nat.le_of_eq g105.symm)
    have sz_b105 : h0.size ≤ b105 := Nat.le_trans Kk104.1 (Nat.le_of_eq g105.symm)
    have Z105 : n0 ≤ h105.size := Nat.le_trans Zk104 E105.1
    have K105 : Keep h0 h105 [] := Kk104.ext E105
    have F105_coder : Fld Z h105 b105 "java/lang/String" "coder" "B" (.int (0 : Int32)) := D105 (Or.inr (hw _ (List.mem_of_getElem? (i := 28) rfl))) (ty := .byte) (by decide)
    have F105_value : Fld Z h105 b105 "java/lang/String" "value" "[B" .null := D105 (Or.inr (hw _ (List.mem_of_getElem? (i := 30) rfl))) (ty := (.array .byte)) (by decide)
    obtain ⟨T108, h108, k108, X108, e108, E108, A108, st108⟩ := newP X105 hx hZ (hw _ (List.mem_of_getElem? (i := 4) rfl)) e105 (g := (mkF m 91 #[iv p0, iv p1, iv p2, iv p3, iv (((1 : Int32) + (0 : Int32))), iv (1 : Int32), iv (0 : Int32), rv b94, .unset, .unset, .unset, .unset, .unset, .unset, .unset] [(.int (2 : Int32)), (.ref b105), (.ref b105)])) rfl (hb hby at_91) rfl (by decide) (cap := 2) (by decide) (by decide) (by decide) (by decide)
    obtain ⟨b108, g108⟩ : ∃ z, z = h105.size := ⟨_, rfl⟩
    rw [← g108] at A108 st108
    have f109 := (V104.ext E105)
    have ne_b104_b108 : b104 ≠ b108 := Nat.ne_of_lt (Nat.lt_of_lt_of_le f109.lt (Nat.le_of_eq g108.symm))
    have ne_b105_b108 : b105 ≠ b108 := Nat.ne_of_lt (Nat.lt_of_lt_of_le A105.lt (Nat.le_of_eq g108.symm))
    have f110 := (f106.ext E105)
    have ne_b94_b108 : b94 ≠ b108 := Nat.ne_of_lt (Nat.lt_of_lt_of_le f110.lt (Nat.le_of_eq g108.symm))
    have f111 := (f107.ext E105)
    have ne_b95_b108 : b95 ≠ b108 := Nat.ne_of_lt (Nat.lt_of_lt_of_le f111.lt (Nat.le_of_eq g108.symm))
    have ge_b108 : n0 ≤ b108 := Nat.le_trans Z105 (Nat.le_of_eq g108.symm)
    have sz_b108 : h0.size ≤ b108 := Nat.le_trans K105.1 (Nat.le_of_eq g108.symm)
    have Z108 : n0 ≤ h108.size := Nat.le_trans Z105 E108.1
    have K108 : Keep h0 h108 [] := K105.ext E108
    have V108 : Arv Z h108 b108 k108 .char (2 : Int32) [(.int (0 : Int32)), (.int (0 : Int32))] (.int (0 : Int32)) := (Arv.new A108 (by decide)).pad (pad_rep [] (.int (0 : Int32)) 2)
    obtain ⟨cl112, Ar112, qk112, Sz112, Ng112, Hs112, Gs112⟩ := id V108
    have hin112 : ¬ ((0 : Int32) < 0 ∨ cl112.slots.size ≤ ((0 : Int32)).toNatClampNeg) := inb_of Sz112 ⟨by decide, by decide⟩
    obtain ⟨T113, h113, X113, e113, W113, st113⟩ := stC X108 hx hZ e108 Ar112 (j := (0 : Int32)) hin112 (g := (mkF m 101 #[iv p0, iv p1, iv p2, iv p3, iv (((1 : Int32) + (0 : Int32))), iv (1 : Int32), iv (0 : Int32), rv b94, .unset, .unset, .unset, .unset, .unset, .unset, .unset] [(.int ((p1 &&& (255 : Int32))).toUInt32.toUInt16.toUInt32.toInt32), (.int (0 : Int32)), (.ref b108), (.ref b108), (.ref b105), (.ref b105)])) rfl rfl (hb hby at_101)
    have N113 := Fr.snoc X113 N104 ge_b108
    have Z113 : n0 ≤ h113.size := Nat.le_trans Z108 (Nat.le_of_eq W113.size.symm)
    have K113 : Keep h0 h113 [] := K108.wr W113 (Or.inr sz_b108)
    have V113 : Arv Z h113 b108 k108 .char (2 : Int32) [(.int (nar .char ((p1 &&& (255 : Int32))).toUInt32.toUInt16.toUInt32.toInt32)), (.int (0 : Int32))] (.int (0 : Int32)) := Arv.set Ar112 qk112 Sz112 Ng112 Hs112 Gs112 (fits_nar_char _) W113 0 rfl (Nat.le_of_ble_eq_true rfl)
    obtain ⟨cl114, Ar114, qk114, Sz114, Ng114, Hs114, Gs114⟩ := id V113
    have hin114 : ¬ ((1 : Int32) < 0 ∨ cl114.slots.size ≤ ((1 : Int32)).toNatClampNeg) := inb_of Sz114 ⟨by decide, by decide⟩
    obtain ⟨T115, h115, X115, e115, W115, st115⟩ := stC X113 hx hZ e113 Ar114 (j := (1 : Int32)) hin114 (g := (mkF m 106 #[iv p0, iv p1, iv p2, iv p3, iv (((1 : Int32) + (0 : Int32))), iv (1 : Int32), iv (0 : Int32), rv b94, .unset, .unset, .unset, .unset, .unset, .unset, .unset] [(.int (98 : Int32)), (.int (1 : Int32)), (.ref b108), (.ref b108), (.ref b105), (.ref b105)])) rfl rfl (hb hby at_106)
    have N115 := Fr.snoc X115 N113 ge_b108
    have Z115 : n0 ≤ h115.size := Nat.le_trans Z113 (Nat.le_of_eq W115.size.symm)
    have K115 : Keep h0 h115 [] := K113.wr W115 (Or.inr sz_b108)
    have V115 : Arv Z h115 b108 k108 .char (2 : Int32) [(.int (nar .char ((p1 &&& (255 : Int32))).toUInt32.toUInt16.toUInt32.toInt32)), (.int (nar .char (98 : Int32)))] (.int (0 : Int32)) := Arv.set Ar114 qk114 Sz114 Ng114 Hs114 Gs114 (fits_nar_char _) W115 1 rfl (Nat.le_of_ble_eq_true rfl)
    have f116 := (((A105.ext E108).wr W113).wr W115)
    have f117 := (((F105_value.ext E108).other W113 (Or.inl ne_b105_b108)).other W115 (Or.inl ne_b105_b108))
    have f118 := (((F105_coder.ext E108).other W113 (Or.inl ne_b105_b108)).other W115 (Or.inl ne_b105_b108))
    have f119 := (((((own_stak f103 K104 (allS (own_exns f100) all0)).ext E105).ext E108).wr W113).wr W115)
    obtain ⟨_, T120, Lc120, X120, hQ120, st120⟩ := own_special (W := 1) (y := mN4) X115 hx hZ rfl hown (hw _ (List.mem_of_getElem? (i := 5) rfl)) (hw _ (List.mem_of_getElem? (i := 6) rfl)) (hw _ (List.mem_of_getElem? (i := 7) rfl)) (hw _ (List.mem_of_getElem? (i := 3) rfl)) (by decide) (rmSi2_2 l Z av0 hw [] b105 b108 k108 wC (nar .char ((p1 &&& (255 : Int32))).toUInt32.toUInt16.toUInt32.toInt32) (nar .char (98 : Int32)) h115 n0 Z115 f116 f117 f118 ge_b105 V115 f119 hw0 (own_ch p1) (by decide)) (by decide) (by decide) (g := (mkF m 107 #[iv p0, iv p1, iv p2, iv p3, iv (((1 : Int32) + (0 : Int32))), iv (1 : Int32), iv (0 : Int32), rv b94, .unset, .unset, .unset, .unset, .unset, .unset, .unset] [(.ref b108), (.ref b105), (.ref b105)])) rfl (by rw [hml]; rfl) (a := b105) (argsL := [(.ref b108)]) (rest := [(.ref b105)]) (lenOf pd__C_V rfl) rfl (by show 2 * 0 + _ ≤ _; exact Nat.le_of_eq rfl) (hb hby at_107) rfl e115 (by decide : 5 + 1 ≤ _) (by decide : 14 + 2 ≤ _)
    obtain ⟨rfl, N120q, K120, FC120, b120, kb120, FV120, V120, gb120⟩ := hQ120
    have N120 := Fr.app N115 N120q
    have e120 : T120.heap = T120.heap := rfl
    have f121 := (((f109.ext E108).other W113 ne_b104_b108).other W115 ne_b104_b108)
    have ne_b104_b120 : b104 ≠ b120 := Nat.ne_of_lt (Nat.lt_of_lt_of_le f121.lt gb120)
    have ne_b105_b120 : b105 ≠ b120 := Nat.ne_of_lt (Nat.lt_of_lt_of_le f116.lt gb120)
    have ne_b108_b120 : b108 ≠ b120 := Nat.ne_of_lt (Nat.lt_of_lt_of_le V115.lt gb120)
    have f122 := (((f110.ext E108).wr W113).wr W115)
    have ne_b94_b120 : b94 ≠ b120 := Nat.ne_of_lt (Nat.lt_of_lt_of_le f122.lt gb120)
    have f123 := (((f111.ext E108).other W113 ne_b95_b108).other W115 ne_b95_b108)
    have ne_b95_b120 : b95 ≠ b120 := Nat.ne_of_lt (Nat.lt_of_lt_of_le f123.lt gb120)
    have ge_b120 : n0 ≤ b120 := Nat.le_trans Z115 gb120
    have sz_b120 : h0.size ≤ b120 := Nat.le_trans K115.1 gb120
    have Zk120 : n0 ≤ T120.heap.size := Nat.le_trans Z115 K120.1
    have Kk120 : Keep h0 T120.heap [] := K115.trans K120 (allS (Or.inr sz_b105) all0)
    obtain ⟨T124, h124, X124, e124, E124, A124, D124, -, st124⟩ := newO X120 hx hZ hown (hw _ (List.mem_of_getElem? (i := 1) rfl)) (hw _ (List.mem_of_getElem? (i := 2) rfl)) (hw _ (List.mem_of_getElem? (i := 3) rfl)) e120 (g := (mkF m 112 #[iv p0, iv p1, iv p2, iv p3, iv (((1 : Int32) + (0 : Int32))), iv (1 : Int32), iv (0 : Int32), rv b94, rv b105, .unset, .unset, .unset, .unset, .unset, .unset] [])) rfl (hb hby at_112) (by decide) (by decide)
    obtain ⟨b124, g124⟩ : ∃ z, z = T120.heap.size := ⟨_, rfl⟩
    rw [← g124] at A124 D124 st124
    have f125 := (f121.keep K120 (ninS ne_b104_b105 nin0))
    have ne_b104_b124 : b104 ≠ b124 := Nat.ne_of_lt (Nat.lt_of_lt_of_le f125.lt (Nat.le_of_eq g124.symm))
    have f126 := (f116.keep K120)
    have ne_b105_b124 : b105 ≠ b124 := Nat.ne_of_lt (Nat.lt_of_lt_of_le f126.lt (Nat.le_of_eq g124.symm))
    have f127 := (V115.keep K120 (ninS (Ne.symm ne_b105_b108) nin0))
    have ne_b108_b124 : b108 ≠ b124 := Nat.ne_of_lt (Nat.lt_of_lt_of_le f127.lt (Nat.le_of_eq g124.symm))
    have ne_b120_b124 : b120 ≠ b124 := Nat.ne_of_lt (Nat.lt_of_lt_of_le V120.lt (Nat.le_of_eq g124.symm))
    have f128 := (f122.keep K120)
    have ne_b94_b124 : b94 ≠ b124 := Nat.ne_of_lt (Nat.lt_of_lt_of_le f128.lt (Nat.le_of_eq g124.symm))
    have f129 := (f123.keep K120 (ninS ne_b95_b105 nin0))
    have ne_b95_b124 : b95 ≠ b124 := Nat.ne_of_lt (Nat.lt_of_lt_of_le f129.lt (Nat.le_of_eq g124.symm))
    have ge_b124 : n0 ≤ b124 := Nat.le_trans Zk120 (Nat.le_of_eq g124.symm)
    have sz_b124 : h0.size ≤ b124 := Nat.le_trans Kk120.1 (Nat.le_of_eq g124.symm)
    have Z124 : n0 ≤ h124.size := Nat.le_trans Zk120 E124.1
    have K124 : Keep h0 h124 [] := Kk120.ext E124
    have F124_coder : Fld Z h124 b124 "java/lang/String" "coder" "B" (.int (0 : Int32)) := D124 (Or.inr (hw _ (List.mem_of_getElem? (i := 28) rfl))) (ty := .byte) (by decide)
    have F124_value : Fld Z h124 b124 "java/lang/String" "value" "[B" .null := D124 (Or.inr (hw _ (List.mem_of_getElem? (i := 30) rfl))) (ty := (.array .byte)) (by decide)
    obtain ⟨T130, h130, k130, X130, e130, E130, A130, st130⟩ := newP X124 hx hZ (hw _ (List.mem_of_getElem? (i := 4) rfl)) e124 (g := (mkF m 117 #[iv p0, iv p1, iv p2, iv p3, iv (((1 : Int32) + (0 : Int32))), iv (1 : Int32), iv (0 : Int32), rv b94, rv b105, .unset, .unset, .unset, .unset, .unset, .unset] [(.int (2 : Int32)), (.ref b124), (.ref b124)])) rfl (hb hby at_117) rfl (by decide) (cap := 2) (by decide) (by decide) (by decide) (by decide)
    obtain ⟨b130, g130⟩ : ∃ z, z = h124.size := ⟨_, rfl⟩
    rw [← g130] at A130 st130
    have f131 := (f125.ext E124)
    have ne_b104_b130 : b104 ≠ b130 := Nat.ne_of_lt (Nat.lt_of_lt_of_le f131.lt (Nat.le_of_eq g130.symm))
    have f132 := (f126.ext E124)
    have ne_b105_b130 : b105 ≠ b130 := Nat.ne_of_lt (Nat.lt_of_lt_of_le f132.lt (Nat.le_of_eq g130.symm))
    have f133 := (f127.ext E124)
    have ne_b108_b130 : b108 ≠ b130 := Nat.ne_of_lt (Nat.lt_of_lt_of_le f133.lt (Nat.le_of_eq g130.symm))
    have f134 := (V120.ext E124)
    have ne_b120_b130 : b120 ≠ b130 := Nat.ne_of_lt (Nat.lt_of_lt_of_le f134.lt (Nat.le_of_eq g130.symm))
    have ne_b124_b130 : b124 ≠ b130 := Nat.ne_of_lt (Nat.lt_of_lt_of_le A124.lt (Nat.le_of_eq g130.symm))
    have f135 := (f128.ext E124)
    have ne_b94_b130 : b94 ≠ b130 := Nat.ne_of_lt (Nat.lt_of_lt_of_le f135.lt (Nat.le_of_eq g130.symm))
    have f136 := (f129.ext E124)
    have ne_b95_b130 : b95 ≠ b130 := Nat.ne_of_lt (Nat.lt_of_lt_of_le f136.lt (Nat.le_of_eq g130.symm))
    have ge_b130 : n0 ≤ b130 := Nat.le_trans Z124 (Nat.le_of_eq g130.symm)
    have sz_b130 : h0.size ≤ b130 := Nat.le_trans K124.1 (Nat.le_of_eq g130.symm)
    have Z130 : n0 ≤ h130.size := Nat.le_trans Z124 E130.1
    have K130 : Keep h0 h130 [] := K124.ext E130
    have V130 : Arv Z h130 b130 k130 .char (2 : Int32) [(.int (0 : Int32)), (.int (0 : Int32))] (.int (0 : Int32)) := (Arv.new A130 (by decide)).pad (pad_rep [] (.int (0 : Int32)) 2)
    obtain ⟨cl137, Ar137, qk137, Sz137, Ng137, Hs137, Gs137⟩ := id V130
    have hin137 : ¬ ((0 : Int32) < 0 ∨ cl137.slots.size ≤ ((0 : Int32)).toNatClampNeg) := inb_of Sz137 ⟨by decide, by decide⟩
    obtain ⟨T138, h138, X138, e138, W138, st138⟩ := stC X130 hx hZ e130 Ar137 (j := (0 : Int32)) hin137 (g := (mkF m 127 #[iv p0, iv p1, iv p2, iv p3, iv (((1 : Int32) + (0 : Int32))), iv (1 : Int32), iv (0 : Int32), rv b94, rv b105, .unset, .unset, .unset, .unset, .unset, .unset] [(.int ((p2 &&& (255 : Int32))).toUInt32.toUInt16.toUInt32.toInt32), (.int (0 : Int32)), (.ref b130), (.ref b130), (.ref b124), (.ref b124)])) rfl rfl (hb hby at_127)
    have N138 := Fr.snoc X138 N120 ge_b130
    have Z138 : n0 ≤ h138.size := Nat.le_trans Z130 (Nat.le_of_eq W138.size.symm)
    have K138 : Keep h0 h138 [] := K130.wr W138 (Or.inr sz_b130)
    have V138 : Arv Z h138 b130 k130 .char (2 : Int32) [(.int (nar .char ((p2 &&& (255 : Int32))).toUInt32.toUInt16.toUInt32.toInt32)), (.int (0 : Int32))] (.int (0 : Int32)) := Arv.set Ar137 qk137 Sz137 Ng137 Hs137 Gs137 (fits_nar_char _) W138 0 rfl (Nat.le_of_ble_eq_true rfl)
    obtain ⟨cl139, Ar139, qk139, Sz139, Ng139, Hs139, Gs139⟩ := id V138
    have hin139 : ¬ ((1 : Int32) < 0 ∨ cl139.slots.size ≤ ((1 : Int32)).toNatClampNeg) := inb_of Sz139 ⟨by decide, by decide⟩
    obtain ⟨T140, h140, X140, e140, W140, st140⟩ := stC X138 hx hZ e138 Ar139 (j := (1 : Int32)) hin139 (g := (mkF m 132 #[iv p0, iv p1, iv p2, iv p3, iv (((1 : Int32) + (0 : Int32))), iv (1 : Int32), iv (0 : Int32), rv b94, rv b105, .unset, .unset, .unset, .unset, .unset, .unset] [(.int (99 : Int32)), (.int (1 : Int32)), (.ref b130), (.ref b130), (.ref b124), (.ref b124)])) rfl rfl (hb hby at_132)
    have N140 := Fr.snoc X140 N138 ge_b130
    have Z140 : n0 ≤ h140.size := Nat.le_trans Z138 (Nat.le_of_eq W140.size.symm)
    have K140 : Keep h0 h140 [] := K138.wr W140 (Or.inr sz_b130)
    have V140 : Arv Z h140 b130 k130 .char (2 : Int32) [(.int (nar .char ((p2 &&& (255 : Int32))).toUInt32.toUInt16.toUInt32.toInt32)), (.int (nar .char (99 : Int32)))] (.int (0 : Int32)) := Arv.set Ar139 qk139 Sz139 Ng139 Hs139 Gs139 (fits_nar_char _) W140 1 rfl (Nat.le_of_ble_eq_true rfl)
    have f141 := (((A124.ext E130).wr W138).wr W140)
    have f142 := (((F124_value.ext E130).other W138 (Or.inl ne_b124_b130)).other W140 (Or.inl ne_b124_b130))
    have f143 := (((F124_coder.ext E130).other W138 (Or.inl ne_b124_b130)).other W140 (Or.inl ne_b124_b130))
    have f144 := (((((own_stak f119 K120 (allS (own_exns f116) all0)).ext E124).ext E130).wr W138).wr W140)
    obtain ⟨_, T145, Lc145, X145, hQ145, st145⟩ := own_special (W := 1) (y := mN4) X140 hx hZ rfl hown (hw _ (List.mem_of_getElem? (i := 5) rfl)) (hw _ (List.mem_of_getElem? (i := 6) rfl)) (hw _ (List.mem_of_getElem? (i := 7) rfl)) (hw _ (List.mem_of_getElem? (i := 3) rfl)) (by decide) (rmSi2_2 l Z av0 hw [] b124 b130 k130 wC (nar .char ((p2 &&& (255 : Int32))).toUInt32.toUInt16.toUInt32.toInt32) (nar .char (99 : Int32)) h140 n0 Z140 f141 f142 f143 ge_b124 V140 f144 hw0 (own_ch p2) (by decide)) (by decide) (by decide) (g := (mkF m 133 #[iv p0, iv p1, iv p2, iv p3, iv (((1 : Int32) + (0 : Int32))), iv (1 : Int32), iv (0 : Int32), rv b94, rv b105, .unset, .unset, .unset, .unset, .unset, .unset] [(.ref b130), (.ref b124), (.ref b124)])) rfl (by rw [hml]; rfl) (a := b124) (argsL := [(.ref b130)]) (rest := [(.ref b124)]) (lenOf pd__C_V rfl) rfl (by show 2 * 0 + _ ≤ _; exact Nat.le_of_eq rfl) (hb hby at_133) rfl e140 (by decide : 8 + 1 ≤ _) (by decide : 22 + 2 ≤ _)
    obtain ⟨rfl, N145q, K145, FC145, b145, kb145, FV145, V145, gb145⟩ := hQ145
    have N145 := Fr.app N140 N145q
    have e145 : T145.heap = T145.heap := rfl
    have f146 := (((f131.ext E130).other W138 ne_b104_b130).other W140 ne_b104_b130)
    have ne_b104_b145 : b104 ≠ b145 := Nat.ne_of_lt (Nat.lt_of_lt_of_le f146.lt gb145)
    have f147 := (((f132.ext E130).wr W138).wr W140)
    have ne_b105_b145 : b105 ≠ b145 := Nat.ne_of_lt (Nat.lt_of_lt_of_le f147.lt gb145)
    have f148 := (((f133.ext E130).other W138 ne_b108_b130).other W140 ne_b108_b130)
    have ne_b108_b145 : b108 ≠ b145 := Nat.ne_of_lt (Nat.lt_of_lt_of_le f148.lt gb145)
    have f149 := (((f134.ext E130).other W138 ne_b120_b130).other W140 ne_b120_b130)
    have ne_b120_b145 : b120 ≠ b145 := Nat.ne_of_lt (Nat.lt_of_lt_of_le f149.lt gb145)
    have ne_b124_b145 : b124 ≠ b145 := Nat.ne_of_lt (Nat.lt_of_lt_of_le f141.lt gb145)
    have ne_b130_b145 : b130 ≠ b145 := Nat.ne_of_lt (Nat.lt_of_lt_of_le V140.lt gb145)
    have f150 := (((f135.ext E130).wr W138).wr W140)
    have ne_b94_b145 : b94 ≠ b145 := Nat.ne_of_lt (Nat.lt_of_lt_of_le f150.lt gb145)
    have f151 := (((f136.ext E130).other W138 ne_b95_b130).other W140 ne_b95_b130)
    have ne_b95_b145 : b95 ≠ b145 := Nat.ne_of_lt (Nat.lt_of_lt_of_le f151.lt gb145)
    have ge_b145 : n0 ≤ b145 := Nat.le_trans Z140 gb145
    have sz_b145 : h0.size ≤ b145 := Nat.le_trans K140.1 gb145
    have Zk145 : n0 ≤ T145.heap.size := Nat.le_trans Z140 K145.1
    have Kk145 : Keep h0 T145.heap [] := K140.trans K145 (allS (Or.inr sz_b124) all0)
    obtain ⟨T152, h152, k152, X152, e152, E152, A152, O152, st152⟩ := newR X145 hx hZ hown (hw _ (List.mem_of_getElem? (i := 1) rfl)) (hw _ (List.mem_of_getElem? (i := 31) rfl)) e145 (g := (mkF m 140 #[iv p0, iv p1, iv p2, iv p3, iv (((1 : Int32) + (0 : Int32))), iv (1 : Int32), iv (0 : Int32), rv b94, rv b105, rv b124, .unset, .unset, .unset, .unset, .unset] [(.int ((1 : Int32) + (0 : Int32)))])) rfl (hb hby at_140) rfl (by decide) (cap := 1) (by decide) (by decide) (by decide) (by decide)
    obtain ⟨b152, g152⟩ : ∃ z, z = T145.heap.size := ⟨_, rfl⟩
    rw [← g152] at A152 st152
    have f153 := (f146.keep K145 (ninS ne_b104_b124 nin0))
    have ne_b104_b152 : b104 ≠ b152 := Nat.ne_of_lt (Nat.lt_of_lt_of_le f153.lt (Nat.le_of_eq g152.symm))
    have f154 := (f147.keep K145)
    have ne_b105_b152 : b105 ≠ b152 := Nat.ne_of_lt (Nat.lt_of_lt_of_le f154.lt (Nat.le_of_eq g152.symm))
    have f155 := (f148.keep K145 (ninS ne_b108_b124 nin0))
    have ne_b108_b152 : b108 ≠ b152 := Nat.ne_of_lt (Nat.lt_of_lt_of_le f155.lt (Nat.le_of_eq g152.symm))
    have f156 := (f149.keep K145 (ninS ne_b120_b124 nin0))
    have ne_b120_b152 : b120 ≠ b152 := Nat.ne_of_lt (Nat.lt_of_lt_of_le f156.lt (Nat.le_of_eq g152.symm))
    have f157 := (f141.keep K145)
    have ne_b124_b152 : b124 ≠ b152 := Nat.ne_of_lt (Nat.lt_of_lt_of_le f157.lt (Nat.le_of_eq g152.symm))
    have f158 := (V140.keep K145 (ninS (Ne.symm ne_b124_b130) nin0))
    have ne_b130_b152 : b130 ≠ b152 := Nat.ne_of_lt (Nat.lt_of_lt_of_le f158.lt (Nat.le_of_eq g152.symm))
    have ne_b145_b152 : b145 ≠ b152 := Nat.ne_of_lt (Nat.lt_of_lt_of_le V145.lt (Nat.le_of_eq g152.symm))
    have f159 := (f150.keep K145)
    have ne_b94_b152 : b94 ≠ b152 := Nat.ne_of_lt (Nat.lt_of_lt_of_le f159.lt (Nat.le_of_eq g152.symm))
    have f160 := (f151.keep K145 (ninS ne_b95_b124 nin0))
    have ne_b95_b152 : b95 ≠ b152 := Nat.ne_of_lt (Nat.lt_of_lt_of_le f160.lt (Nat.le_of_eq g152.symm))
    have ge_b152 : n0 ≤ b152 := Nat.le_trans Zk145 (Nat.le_of_eq g152.symm)
    have sz_b152 : h0.size ≤ b152 := Nat.le_trans Kk145.1 (Nat.le_of_eq g152.symm)
    have Z152 : n0 ≤ h152.size := Nat.le_trans Zk145 E152.1
    have K152 : Keep h0 h152 [] := Kk145.ext E152
    have V152 : Arv Z h152 b152 k152 (.object "java/lang/String") ((1 : Int32) + (0 : Int32)) [.null] .null := (Arv.new A152 (by decide)).pad (pad_rep [] .null 1)
    obtain ⟨cl161, Ar161, qk161, Sz161, Ng161, Hs161, Gs161⟩ := id V152
    have hin161 : ¬ ((0 : Int32) < 0 ∨ cl161.slots.size ≤ ((0 : Int32)).toNatClampNeg) := inb_of Sz161 ⟨by decide, by decide⟩
    have f162 := (f159.ext E152)
    obtain ⟨T163, h163, X163, e163, W163, st163⟩ := stR X152 hx hZ e152 Ar161 (j := (0 : Int32)) hin161 rfl (Sto.ofV Ar161 qk161 O152 (Ins.self f162)) (g := (mkF m 150 #[iv p0, iv p1, iv p2, iv p3, iv (((1 : Int32) + (0 : Int32))), iv (1 : Int32), iv (0 : Int32), rv b94, rv b105, rv b124, rv b152, .unset, .unset, .unset, .unset] [(.ref b94), (.int (0 : Int32)), (.ref b152)])) rfl rfl (hb hby at_150)
    have N163 := Fr.snoc X163 N145 ge_b152
    have Z163 : n0 ≤ h163.size := Nat.le_trans Z152 (Nat.le_of_eq W163.size.symm)
    have K163 : Keep h0 h163 [] := K152.wr W163 (Or.inr sz_b152)
    have V163 : Arv Z h163 b152 k152 (.object "java/lang/String") ((1 : Int32) + (0 : Int32)) [(.ref b94)] .null := Arv.set Ar161 qk161 Sz161 Ng161 Hs161 Gs161 rfl W163 0 rfl (Nat.le_of_ble_eq_true rfl)
    obtain ⟨T164, h164, X164, e164, E164, A164, D164, -, st164⟩ := newO X163 hx hZ hown (hw _ (List.mem_of_getElem? (i := 32) rfl)) (hw _ (List.mem_of_getElem? (i := 33) rfl)) (hw _ (List.mem_of_getElem? (i := 34) rfl)) e163 (g := (mkF m 175 #[iv p0, iv p1, iv p2, iv p3, iv (((1 : Int32) + (0 : Int32))), iv (1 : Int32), iv (0 : Int32), rv b94, rv b105, rv b124, rv b152, .unset, .unset, .unset, .unset] [])) rfl (hb hby at_175) (by decide) (by decide)
    obtain ⟨b164, g164⟩ : ∃ z, z = h163.size := ⟨_, rfl⟩
    rw [← g164] at A164 D164 st164
    have f165 := ((f153.ext E152).other W163 ne_b104_b152)
    have ne_b104_b164 : b104 ≠ b164 := Nat.ne_of_lt (Nat.lt_of_lt_of_le f165.lt (Nat.le_of_eq g164.symm))
    have f166 := ((f154.ext E152).wr W163)
    have ne_b105_b164 : b105 ≠ b164 := Nat.ne_of_lt (Nat.lt_of_lt_of_le f166.lt (Nat.le_of_eq g164.symm))
    have f167 := ((f155.ext E152).other W163 ne_b108_b152)
    have ne_b108_b164 : b108 ≠ b164 := Nat.ne_of_lt (Nat.lt_of_lt_of_le f167.lt (Nat.le_of_eq g164.symm))
    have f168 := ((f156.ext E152).other W163 ne_b120_b152)
    have ne_b120_b164 : b120 ≠ b164 := Nat.ne_of_lt (Nat.lt_of_lt_of_le f168.lt (Nat.le_of_eq g164.symm))
    have f169 := ((f157.ext E152).wr W163)
    have ne_b124_b164 : b124 ≠ b164 := Nat.ne_of_lt (Nat.lt_of_lt_of_le f169.lt (Nat.le_of_eq g164.symm))
    have f170 := ((f158.ext E152).other W163 ne_b130_b152)
    have ne_b130_b164 : b130 ≠ b164 := Nat.ne_of_lt (Nat.lt_of_lt_of_le f170.lt (Nat.le_of_eq g164.symm))
    have f171 := ((V145.ext E152).other W163 ne_b145_b152)
    have ne_b145_b164 : b145 ≠ b164 := Nat.ne_of_lt (Nat.lt_of_lt_of_le f171.lt (Nat.le_of_eq g164.symm))
    have ne_b152_b164 : b152 ≠ b164 := Nat.ne_of_lt (Nat.lt_of_lt_of_le V163.lt (Nat.le_of_eq g164.symm))
    have f172 := (f162.wr W163)
    have ne_b94_b164 : b94 ≠ b164 := Nat.ne_of_lt (Nat.lt_of_lt_of_le f172.lt (Nat.le_of_eq g164.symm))
    have f173 := ((f160.ext E152).other W163 ne_b95_b152)
    have ne_b95_b164 : b95 ≠ b164 := Nat.ne_of_lt (Nat.lt_of_lt_of_le f173.lt (Nat.le_of_eq g164.symm))
    have ge_b164 : n0 ≤ b164 := Nat.le_trans Z163 (Nat.le_of_eq g164.symm)
    have sz_b164 : h0.size ≤ b164 := Nat.le_trans K163.1 (Nat.le_of_eq g164.symm)
    have Z164 : n0 ≤ h164.size := Nat.le_trans Z163 E164.1
    have K164 : Keep h0 h164 [] := K163.ext E164
    have F164_arguments : Fld Z h164 b164 "com/example/steady_courier/steadycourier/OptionReader" "arguments" "[Ljava/lang/String;" .null := D164 (Or.inr (hw _ (List.mem_of_getElem? (i := 40) rfl))) (ty := (.array (.object "java/lang/String"))) (by decide)
    have F164_next : Fld Z h164 b164 "com/example/steady_courier/steadycourier/OptionReader" "next" "I" (.int (0 : Int32)) := D164 (Or.inl (hw _ (List.mem_of_getElem? (i := 47) rfl))) (ty := .int) (by decide)
    obtain ⟨_, T174, Lc174, X174, hQ174, st174⟩ := own_special (W := 1) (y := mN5) X164 hx hZ rfl hown (hw _ (List.mem_of_getElem? (i := 35) rfl)) (hw _ (List.mem_of_getElem? (i := 36) rfl)) (hw _ (List.mem_of_getElem? (i := 37) rfl)) (hw _ (List.mem_of_getElem? (i := 34) rfl)) (by decide) (rmInit l Z av0 hw [] b164 b152 h164 n0 Z164 A164 F164_arguments F164_next ge_b164) (by decide) (by decide) (g := (mkF m 181 #[iv p0, iv p1, iv p2, iv p3, iv (((1 : Int32) + (0 : Int32))), iv (1 : Int32), iv (0 : Int32), rv b94, rv b105, rv b124, rv b152, .unset, .unset, .unset, .unset] [(.ref b152), (.ref b164), (.ref b164)])) rfl (by rw [hml]; rfl) (a := b164) (argsL := [(.ref b152)]) (rest := [(.ref b164)]) (lenOf pd__Ljava_lang_String_V rfl) rfl (by show 2 * 0 + _ ≤ _; exact Nat.le_of_eq rfl) (hb hby at_181) rfl e164 (by decide : 11 + 0 ≤ _) (by decide : 27 + 0 ≤ _)
    obtain ⟨rfl, N174q, K174, FA174, FN174⟩ := hQ174
    have N174 := Fr.app N163 N174q
    have e174 : T174.heap = T174.heap := rfl
    have Zk174 : n0 ≤ T174.heap.size := Nat.le_trans Z164 K174.1
    have Kk174 : Keep h0 T174.heap [] := K164.trans K174 (allS (Or.inr sz_b164) all0)
    have f175 := ((V163.ext E164).keep K174 (ninS ne_b152_b164 nin0))
    have f177 := (A164.keep K174)
    obtain ⟨_, T176, Lc176, X176, hQ176, st176⟩ := own_virtual (W := 0) (y := mN6) (z := mN6) X174 hx hZ hown (hw _ (List.mem_of_getElem? (i := 41) rfl)) (hw _ (List.mem_of_getElem? (i := 42) rfl)) (notFace_of_selects (args := #[]) (mvT hZ (hw _ (List.mem_of_getElem? (i := 44) rfl)))) (hw _ (List.mem_of_getElem? (i := 44) rfl)) (hw _ (List.mem_of_getElem? (i := 43) rfl)) (hw _ (List.mem_of_getElem? (i := 45) rfl)) (hw _ (List.mem_of_getElem? (i := 34) rfl)) (by decide) (rmHas l Z av0 hw [] b164 b152 k152 ((1 : Int32) + (0 : Int32)) [(.ref b94)] (0 : Int32) T174.heap n0 Zk174 FA174 FN174 f175) (by decide) (by decide) f177 (g := (mkF m 188 #[iv p0, iv p1, iv p2, iv p3, iv (((1 : Int32) + (0 : Int32))), iv (1 : Int32), iv (0 : Int32), rv b94, rv b105, rv b124, rv b152, rv b164, .unset, .unset, .unset] [(.ref b164)])) rfl (by rw [hml]; rfl) (argsL := []) (rest := []) (lenOf pd__Z rfl) rfl (by show 2 * 0 + _ ≤ _; exact Nat.le_of_eq rfl) (hb hby at_188) rfl e174 (by decide : 11 + 0 ≤ _) (by decide : 27 + 0 ≤ _)
    obtain ⟨rfl, N176q, hh176⟩ := hQ176
    have N176 := Fr.app N174 N176q
    have e176 : T176.heap = T174.heap := hh176
    obtain ⟨_, T178, Lc178, X178, hQ178, st178⟩ := own_virtual (W := 0) (y := mN7) (z := mN7) X176 hx hZ hown (hw _ (List.mem_of_getElem? (i := 48) rfl)) (hw _ (List.mem_of_getElem? (i := 49) rfl)) (notFace_of_selects (args := #[]) (mvT hZ (hw _ (List.mem_of_getElem? (i := 51) rfl)))) (hw _ (List.mem_of_getElem? (i := 51) rfl)) (hw _ (List.mem_of_getElem? (i := 50) rfl)) (hw _ (List.mem_of_getElem? (i := 52) rfl)) (hw _ (List.mem_of_getElem? (i := 34) rfl)) (by decide) (rmOpt l Z av0 hw [] b164 b152 k152 ((1 : Int32) + (0 : Int32)) [(.ref b94)] (0 : Int32) b94 T174.heap n0 Zk174 FA174 FN174 f175 f177 ge_b164 (Ne.symm ne_b152_b164) (by decide) rfl) (by decide) (by decide) f177 (g := (mkF m 198 #[iv p0, iv p1, iv p2, iv p3, iv (((1 : Int32) + (0 : Int32))), iv (1 : Int32), iv (0 : Int32), rv b94, rv b105, rv b124, rv b152, rv b164, .unset, .unset, .unset] [(.ref b164)])) rfl (by rw [hml]; rfl) (argsL := []) (rest := []) (lenOf pd__Ljava_lang_String_ rfl) rfl (by show 2 * 0 + _ ≤ _; exact Nat.le_of_eq rfl) (hb hby at_198) rfl e176 (by decide : 11 + 0 ≤ _) (by decide : 27 + 0 ≤ _)
    obtain ⟨rfl, N178q, K178, FN178, FA178⟩ := hQ178
    have N178 := Fr.app N176 N178q
    have e178 : T178.heap = T178.heap := rfl
    have Zk178 : n0 ≤ T178.heap.size := Nat.le_trans Zk174 K178.1
    have Kk178 : Keep h0 T178.heap [] := Kk174.trans K178 (allS (Or.inr sz_b164) all0)
    have f180 := (((f172.ext E164).keep K174).keep K178)
    obtain ⟨_, T179, Lc179, X179, hQ179, st179⟩ := own_virtual (W := 0) (y := mN9) (z := mN9) X178 hx hZ hown (hw _ (List.mem_of_getElem? (i := 53) rfl)) (hw _ (List.mem_of_getElem? (i := 54) rfl)) (notFace_of_selects (args := #[]) (mvT hZ (hw _ (List.mem_of_getElem? (i := 56) rfl)))) (hw _ (List.mem_of_getElem? (i := 56) rfl)) (hw _ (List.mem_of_getElem? (i := 55) rfl)) (hw _ (List.mem_of_getElem? (i := 57) rfl)) (hw _ (List.mem_of_getElem? (i := 3) rfl)) (by decide) (rmSame l Z av0 hw [] b94 T178.heap n0 Zk178 ) (by decide) (by decide) f180 (g := (mkF m 207 #[iv p0, iv p1, iv p2, iv p3, iv (((1 : Int32) + (0 : Int32))), iv (1 : Int32), iv (0 : Int32), rv b94, rv b105, rv b124, rv b152, rv b164, rv b94, .unset, .unset] [(.ref b94), (.ref b94)])) rfl (by rw [hml]; rfl) (argsL := [(.ref b94)]) (rest := []) (lenOf pd__Ljava_lang_Object_Z rfl) rfl (by show 2 * 0 + _ ≤ _; exact Nat.le_of_eq rfl) (hb hby at_207) rfl e178 (by decide : 11 + 0 ≤ _) (by decide : 27 + 0 ≤ _)
    obtain ⟨rfl, N179q, hh179⟩ := hQ179
    have N179 := Fr.app N178 N179q
    have e179 : T179.heap = T178.heap := hh179
    have f181 := (f175.keep K178 (ninS ne_b152_b164 nin0))
    have f183 := (f177.keep K178)
    obtain ⟨_, T182, Lc182, X182, hQ182, st182⟩ := own_virtual (W := 0) (y := mN6) (z := mN6) X179 hx hZ hown (hw _ (List.mem_of_getElem? (i := 41) rfl)) (hw _ (List.mem_of_getElem? (i := 42) rfl)) (notFace_of_selects (args := #[]) (mvT hZ (hw _ (List.mem_of_getElem? (i := 44) rfl)))) (hw _ (List.mem_of_getElem? (i := 44) rfl)) (hw _ (List.mem_of_getElem? (i := 43) rfl)) (hw _ (List.mem_of_getElem? (i := 45) rfl)) (hw _ (List.mem_of_getElem? (i := 34) rfl)) (by decide) (rmHas l Z av0 hw [] b164 b152 k152 ((1 : Int32) + (0 : Int32)) [(.ref b94)] ((0 : Int32) + (1 : Int32)) T178.heap n0 Zk178 FA178 FN178 f181) (by decide) (by decide) f183 (g := (mkF m 217 #[iv p0, iv p1, iv p2, iv p3, iv (((1 : Int32) + (0 : Int32))), iv (1 : Int32), iv (0 : Int32), rv b94, rv b105, rv b124, rv b152, rv b164, rv b94, .unset, .unset] [(.ref b164)])) rfl (by rw [hml]; rfl) (argsL := []) (rest := []) (lenOf pd__Z rfl) rfl (by show 2 * 0 + _ ≤ _; exact Nat.le_of_eq rfl) (hb hby at_217) rfl e179 (by decide : 11 + 0 ≤ _) (by decide : 27 + 0 ≤ _)
    obtain ⟨rfl, N182q, hh182⟩ := hQ182
    have N182 := Fr.app N179 N182q
    have e182 : T182.heap = T178.heap := hh182
    have S184 : ∀ t, Steps p.tables e below (T182.setTop (mkF m 243 #[iv p0, iv p1, iv p2, iv p3, iv (((1 : Int32) + (0 : Int32))), iv (1 : Int32), iv (0 : Int32), rv b94, rv b105, rv b124, rv b152, rv b164, rv b94, .unset, .unset] [(.int (1 : Int32))])) t → Steps p.tables e below (s₁.setTop (mkF m 0 #[iv p0, iv p1, iv p2, iv p3, .unset, .unset, .unset, .unset, .unset, .unset, .unset, .unset, .unset, .unset, .unset] [])) t := fun t k => S1 t (by
      show Steps p.tables e below (s₁.setTop (mkF m 16 #[iv p0, iv p1, iv p2, iv p3, iv (((1 : Int32) + (0 : Int32))), .unset, .unset, .unset, .unset, .unset, .unset, .unset, .unset, .unset, .unset] [(.int ((XT.ushr p3 (8 : Int32)) &&& (1 : Int32)))])) _
      refine XS.ifNo X0.here hx rfl (hb hby at_16) rfl (XT.i0_eq_f hc16_2) ?_
      refine XT.iconstV X0.here hx rfl (1 : Int32) (hb hby at_19) (by decide) ?_
      refine XS.goto X0.here hx rfl (pc0 := 20) (pc' := 24) rfl (hb hby at_20) (by decide) (by decide) ?_
      refine XS.istore X0.here hx rfl (hb hby at_24) rfl (l' := #[iv p0, iv p1, iv p2, iv p3, iv (((1 : Int32) + (0 : Int32))), iv (1 : Int32), .unset, .unset, .unset, .unset, .unset, .unset, .unset, .unset, .unset]) rfl ?_
      show Steps p.tables e below (s₁.setTop (mkF m 26 #[iv p0, iv p1, iv p2, iv p3, iv (((1 : Int32) + (0 : Int32))), iv (1 : Int32), .unset, .unset, .unset, .unset, .unset, .unset, .unset, .unset, .unset] [])) _
      refine XS.iloadN X0.here hx rfl (hb hby at_26) rfl ?_
      refine XT.bipushV X0.here hx rfl (9 : Int32) (hb hby at_27) (by decide) ?_
      refine XT.iushr X0.here hx rfl (hb hby at_29) rfl ?_
      refine XT.iconstV X0.here hx rfl (1 : Int32) (hb hby at_30) (by decide) ?_
      refine XS.iand X0.here hx rfl (hb hby at_31) rfl ?_
      show Steps p.tables e below (s₁.setTop (mkF m 32 #[iv p0, iv p1, iv p2, iv p3, iv (((1 : Int32) + (0 : Int32))), iv (1 : Int32), .unset, .unset, .unset, .unset, .unset, .unset, .unset, .unset, .unset] [(.int ((XT.ushr p3 (9 : Int32)) &&& (1 : Int32)))])) _
      rw [he]
      show Steps p.tables e below (s₁.setTop (mkF m 32 #[iv p0, iv p1, iv p2, iv p3, iv (((1 : Int32) + (0 : Int32))), iv (1 : Int32), .unset, .unset, .unset, .unset, .unset, .unset, .unset, .unset, .unset] [(.int (0 : Int32))])) _
      refine XS.ifYes X0.here hx rfl (pc0 := 32) (pc' := 39) rfl (hb hby at_32) rfl (XT.i0_eq_t (by decide)) (by decide) (by decide) ?_
      refine XT.iconstV X0.here hx rfl (0 : Int32) (hb hby at_39) (by decide) ?_
      refine XS.istore X0.here hx rfl (hb hby at_40) rfl (l' := #[iv p0, iv p1, iv p2, iv p3, iv (((1 : Int32) + (0 : Int32))), iv (1 : Int32), iv (0 : Int32), .unset, .unset, .unset, .unset, .unset, .unset, .unset, .unset]) rfl ?_
      refine XS.iload X0.here hx rfl (hb hby at_42) rfl ?_
      refine XS.ifYes X0.here hx rfl (pc0 := 44) (pc' := 60) rfl (hb hby at_44) rfl (XT.i0_eq_t (by decide)) (by decide) (by decide) ?_
      refine st94 _ ?_
      show Steps p.tables e below (T94.setTop (mkF m 63 #[iv p0, iv p1, iv p2, iv p3, iv (((1 : Int32) + (0 : Int32))), iv (1 : Int32), iv (0 : Int32), .unset, .unset, .unset, .unset, .unset, .unset, .unset, .unset] [(.ref b94)])) _
      refine XS.dup X94.here hx rfl (hb hby at_63) rfl rfl ?_
      refine XT.iconstV X94.here hx rfl (2 : Int32) (hb hby at_64) (by decide) ?_
      refine st95 _ ?_
      refine XS.dup X95.here hx rfl (hb hby at_67) rfl rfl ?_
      refine XT.iconstV X95.here hx rfl (0 : Int32) (hb hby at_68) (by decide) ?_
      refine XS.iloadN X95.here hx rfl (hb hby at_69) rfl ?_
      show Steps p.tables e below (T95.setTop (mkF m 70 #[iv p0, iv p1, iv p2, iv p3, iv (((1 : Int32) + (0 : Int32))), iv (1 : Int32), iv (0 : Int32), .unset, .unset, .unset, .unset, .unset, .unset, .unset, .unset] [(.int p0), (.int (0 : Int32)), (.ref b95), (.ref b95), (.ref b94), (.ref b94)])) _
      refine XT.sipushV X95.here hx rfl (255 : Int32) (hb hby at_70) (by decide) ?_
      refine XS.iand X95.here hx rfl (hb hby at_73) rfl ?_
      refine XT.i2c X95.here hx rfl (hb hby at_74) rfl ?_
      refine st97 _ ?_
      refine XS.dup X97.here hx rfl (hb hby at_76) rfl rfl ?_
      refine XT.iconstV X97.here hx rfl (1 : Int32) (hb hby at_77) (by decide) ?_
      show Steps p.tables e below (T97.setTop (mkF m 78 #[iv p0, iv p1, iv p2, iv p3, iv (((1 : Int32) + (0 : Int32))), iv (1 : Int32), iv (0 : Int32), .unset, .unset, .unset, .unset, .unset, .unset, .unset, .unset] [(.int (1 : Int32)), (.ref b95), (.ref b95), (.ref b94), (.ref b94)])) _
      refine XT.bipushV X97.here hx rfl (97 : Int32) (hb hby at_78) (by decide) ?_
      refine st99 _ ?_
      refine st104 _ ?_
      refine XS.astore X104.here hx rfl (hb hby at_84) rfl rfl (l' := #[iv p0, iv p1, iv p2, iv p3, iv (((1 : Int32) + (0 : Int32))), iv (1 : Int32), iv (0 : Int32), rv b94, .unset, .unset, .unset, .unset, .unset, .unset, .unset]) rfl ?_
      refine st105 _ ?_
      refine XS.dup X105.here hx rfl (hb hby at_89) rfl rfl ?_
      show Steps p.tables e below (T105.setTop (mkF m 90 #[iv p0, iv p1, iv p2, iv p3, iv (((1 : Int32) + (0 : Int32))), iv (1 : Int32), iv (0 : Int32), rv b94, .unset, .unset, .unset, .unset, .unset, .unset, .unset] [(.ref b105), (.ref b105)])) _
      refine XT.iconstV X105.here hx rfl (2 : Int32) (hb hby at_90) (by decide) ?_
      refine st108 _ ?_
      refine XS.dup X108.here hx rfl (hb hby at_93) rfl rfl ?_
      refine XT.iconstV X108.here hx rfl (0 : Int32) (hb hby at_94) (by decide) ?_
      refine XS.iloadN X108.here hx rfl (hb hby at_95) rfl ?_
      refine XT.sipushV X108.here hx rfl (255 : Int32) (hb hby at_96) (by decide) ?_
      show Steps p.tables e below (T108.setTop (mkF m 99 #[iv p0, iv p1, iv p2, iv p3, iv (((1 : Int32) + (0 : Int32))), iv (1 : Int32), iv (0 : Int32), rv b94, .unset, .unset, .unset, .unset, .unset, .unset, .unset] [(.int (255 : Int32)), (.int p1), (.int (0 : Int32)), (.ref b108), (.ref b108), (.ref b105), (.ref b105)])) _
      refine XS.iand X108.here hx rfl (hb hby at_99) rfl ?_
      refine XT.i2c X108.here hx rfl (hb hby at_100) rfl ?_
      refine st113 _ ?_
      refine XS.dup X113.here hx rfl (hb hby at_102) rfl rfl ?_
      refine XT.iconstV X113.here hx rfl (1 : Int32) (hb hby at_103) (by decide) ?_
      refine XT.bipushV X113.here hx rfl (98 : Int32) (hb hby at_104) (by decide) ?_
      show Steps p.tables e below (T113.setTop (mkF m 106 #[iv p0, iv p1, iv p2, iv p3, iv (((1 : Int32) + (0 : Int32))), iv (1 : Int32), iv (0 : Int32), rv b94, .unset, .unset, .unset, .unset, .unset, .unset, .unset] [(.int (98 : Int32)), (.int (1 : Int32)), (.ref b108), (.ref b108), (.ref b105), (.ref b105)])) _
      refine st115 _ ?_
      refine st120 _ ?_
      refine XS.astore X120.here hx rfl (hb hby at_110) rfl rfl (l' := #[iv p0, iv p1, iv p2, iv p3, iv (((1 : Int32) + (0 : Int32))), iv (1 : Int32), iv (0 : Int32), rv b94, rv b105, .unset, .unset, .unset, .unset, .unset, .unset]) rfl ?_
      refine st124 _ ?_
      refine XS.dup X124.here hx rfl (hb hby at_115) rfl rfl ?_
      refine XT.iconstV X124.here hx rfl (2 : Int32) (hb hby at_116) (by decide) ?_
      show Steps p.tables e below (T124.setTop (mkF m 117 #[iv p0, iv p1, iv p2, iv p3, iv (((1 : Int32) + (0 : Int32))), iv (1 : Int32), iv (0 : Int32), rv b94, rv b105, .unset, .unset, .unset, .unset, .unset, .unset] [(.int (2 : Int32)), (.ref b124), (.ref b124)])) _
      refine st130 _ ?_
      refine XS.dup X130.here hx rfl (hb hby at_119) rfl rfl ?_
      refine XT.iconstV X130.here hx rfl (0 : Int32) (hb hby at_120) (by decide) ?_
      refine XS.iloadN X130.here hx rfl (hb hby at_121) rfl ?_
      refine XT.sipushV X130.here hx rfl (255 : Int32) (hb hby at_122) (by decide) ?_
      refine XS.iand X130.here hx rfl (hb hby at_125) rfl ?_
      show Steps p.tables e below (T130.setTop (mkF m 126 #[iv p0, iv p1, iv p2, iv p3, iv (((1 : Int32) + (0 : Int32))), iv (1 : Int32), iv (0 : Int32), rv b94, rv b105, .unset, .unset, .unset, .unset, .unset, .unset] [(.int (p2 &&& (255 : Int32))), (.int (0 : Int32)), (.ref b130), (.ref b130), (.ref b124), (.ref b124)])) _
      refine XT.i2c X130.here hx rfl (hb hby at_126) rfl ?_
      refine st138 _ ?_
      refine XS.dup X138.here hx rfl (hb hby at_128) rfl rfl ?_
      refine XT.iconstV X138.here hx rfl (1 : Int32) (hb hby at_129) (by decide) ?_
      refine XT.bipushV X138.here hx rfl (99 : Int32) (hb hby at_130) (by decide) ?_
      refine st140 _ ?_
      show Steps p.tables e below (T140.setTop (mkF m 133 #[iv p0, iv p1, iv p2, iv p3, iv (((1 : Int32) + (0 : Int32))), iv (1 : Int32), iv (0 : Int32), rv b94, rv b105, .unset, .unset, .unset, .unset, .unset, .unset] [(.ref b130), (.ref b124), (.ref b124)])) _
      refine st145 _ ?_
      refine XS.astore X145.here hx rfl (hb hby at_136) rfl rfl (l' := #[iv p0, iv p1, iv p2, iv p3, iv (((1 : Int32) + (0 : Int32))), iv (1 : Int32), iv (0 : Int32), rv b94, rv b105, rv b124, .unset, .unset, .unset, .unset, .unset]) rfl ?_
      refine XS.iload X145.here hx rfl (hb hby at_138) rfl ?_
      refine st152 _ ?_
      refine XS.astore X152.here hx rfl (hb hby at_143) rfl rfl (l' := #[iv p0, iv p1, iv p2, iv p3, iv (((1 : Int32) + (0 : Int32))), iv (1 : Int32), iv (0 : Int32), rv b94, rv b105, rv b124, rv b152, .unset, .unset, .unset, .unset]) rfl ?_
      refine XS.aload X152.here hx rfl (hb hby at_145) rfl rfl ?_
      show Steps p.tables e below (T152.setTop (mkF m 147 #[iv p0, iv p1, iv p2, iv p3, iv (((1 : Int32) + (0 : Int32))), iv (1 : Int32), iv (0 : Int32), rv b94, rv b105, rv b124, rv b152, .unset, .unset, .unset, .unset] [(.ref b152)])) _
      refine XT.iconstV X152.here hx rfl (0 : Int32) (hb hby at_147) (by decide) ?_
      refine XS.aload X152.here hx rfl (hb hby at_148) rfl rfl ?_
      refine st163 _ ?_
      refine XS.iload X163.here hx rfl (hb hby at_151) rfl ?_
      refine XT.iconstV X163.here hx rfl (1 : Int32) (hb hby at_153) (by decide) ?_
      refine XS.icmpYes X163.here hx rfl (pc0 := 154) (pc' := 163) rfl (hb hby at_154) rfl (XT.ii_le_t (by decide)) (by decide) (by decide) ?_
      show Steps p.tables e below (T163.setTop (mkF m 163 #[iv p0, iv p1, iv p2, iv p3, iv (((1 : Int32) + (0 : Int32))), iv (1 : Int32), iv (0 : Int32), rv b94, rv b105, rv b124, rv b152, .unset, .unset, .unset, .unset] [])) _
      refine XS.iload X163.here hx rfl (hb hby at_163) rfl ?_
      refine XT.iconstV X163.here hx rfl (2 : Int32) (hb hby at_165) (by decide) ?_
      refine XS.icmpYes X163.here hx rfl (pc0 := 166) (pc' := 175) rfl (hb hby at_166) rfl (XT.ii_le_t (by decide)) (by decide) (by decide) ?_
      refine st164 _ ?_
      refine XS.dup X164.here hx rfl (hb hby at_178) rfl rfl ?_
      refine XS.aload X164.here hx rfl (hb hby at_179) rfl rfl ?_
      show Steps p.tables e below (T164.setTop (mkF m 181 #[iv p0, iv p1, iv p2, iv p3, iv (((1 : Int32) + (0 : Int32))), iv (1 : Int32), iv (0 : Int32), rv b94, rv b105, rv b124, rv b152, .unset, .unset, .unset, .unset] [(.ref b152), (.ref b164), (.ref b164)])) _
      refine st174 _ ?_
      refine XS.astore X174.here hx rfl (hb hby at_184) rfl rfl (l' := #[iv p0, iv p1, iv p2, iv p3, iv (((1 : Int32) + (0 : Int32))), iv (1 : Int32), iv (0 : Int32), rv b94, rv b105, rv b124, rv b152, rv b164, .unset, .unset, .unset]) rfl ?_
      refine XS.aload X174.here hx rfl (hb hby at_186) rfl rfl ?_
      refine st176 _ ?_
      refine XS.ifYes X176.here hx rfl (pc0 := 191) (pc' := 196) rfl (hb hby at_191) rfl (XT.i0_ne_t (by decide)) (by decide) (by decide) ?_
      refine XS.aload X176.here hx rfl (hb hby at_196) rfl rfl ?_
      show Steps p.tables e below (T176.setTop (mkF m 198 #[iv p0, iv p1, iv p2, iv p3, iv (((1 : Int32) + (0 : Int32))), iv (1 : Int32), iv (0 : Int32), rv b94, rv b105, rv b124, rv b152, rv b164, .unset, .unset, .unset] [(.ref b164)])) _
      refine st178 _ ?_
      refine XS.astore X178.here hx rfl (hb hby at_201) rfl rfl (l' := #[iv p0, iv p1, iv p2, iv p3, iv (((1 : Int32) + (0 : Int32))), iv (1 : Int32), iv (0 : Int32), rv b94, rv b105, rv b124, rv b152, rv b164, rv b94, .unset, .unset]) rfl ?_
      refine XS.aload X178.here hx rfl (hb hby at_203) rfl rfl ?_
      refine XS.aload X178.here hx rfl (hb hby at_205) rfl rfl ?_
      refine st179 _ ?_
      refine XS.ifYes X179.here hx rfl (pc0 := 210) (pc' := 215) rfl (hb hby at_210) rfl (XT.i0_ne_t (by decide)) (by decide) (by decide) ?_
      show Steps p.tables e below (T179.setTop (mkF m 215 #[iv p0, iv p1, iv p2, iv p3, iv (((1 : Int32) + (0 : Int32))), iv (1 : Int32), iv (0 : Int32), rv b94, rv b105, rv b124, rv b152, rv b164, rv b94, .unset, .unset] [])) _
      refine XS.aload X179.here hx rfl (hb hby at_215) rfl rfl ?_
      refine st182 _ ?_
      refine XS.iload X182.here hx rfl (hb hby at_220) rfl ?_
      refine XT.iconstV X182.here hx rfl (1 : Int32) (hb hby at_222) (by decide) ?_
      refine XS.icmpYes X182.here hx rfl (pc0 := 223) (pc' := 230) rfl (hb hby at_223) rfl (XT.ii_le_t (by decide)) (by decide) (by decide) ?_
      refine XT.iconstV X182.here hx rfl (0 : Int32) (hb hby at_230) (by decide) ?_
      show Steps p.tables e below (T182.setTop (mkF m 231 #[iv p0, iv p1, iv p2, iv p3, iv (((1 : Int32) + (0 : Int32))), iv (1 : Int32), iv (0 : Int32), rv b94, rv b105, rv b124, rv b152, rv b164, rv b94, .unset, .unset] [(.int (0 : Int32)), (.int (own_lt ((0 : Int32) + (1 : Int32)) ((1 : Int32) + (0 : Int32))))])) _
      refine XS.icmpYes X182.here hx rfl (pc0 := 231) (pc' := 236) rfl (hb hby at_231) rfl (XT.ii_eq_t (by decide)) (by decide) (by decide) ?_
      refine XS.iload X182.here hx rfl (hb hby at_236) rfl ?_
      refine XT.iconstV X182.here hx rfl (1 : Int32) (hb hby at_238) (by decide) ?_
      refine XS.icmpNo X182.here hx rfl (hb hby at_239) rfl (XT.ii_ne_f (by decide)) ?_
      refine XT.iconstV X182.here hx rfl (1 : Int32) (hb hby at_242) (by decide) ?_
      exact k)
    obtain ⟨fs, hr, hrun, hended, hW, hsame⟩ := X182.leave (v := some (.int (1 : Int32))) (fun h => by rw [Bd.returns] at h; cases h)
    refine ⟨_, _, pre0 _ (S184 _ ?_), hrun, hended, _, _, rfl, ?_, ReturnedEndW.of_narrow ⟨_, rfl⟩ hW (hsame.mono (by decide) (by decide))⟩
    · exact retN X182 hx (t := .boolean) Bd.returns (by simp) (hb hby at_243) hr
    · show Qrm0 Z p0 p1 p2 p3 wC h0 n0 _ T182.heap _
      rw [e182]
      exact ⟨rfl, N182⟩
set_option maxRecDepth 65536 in
set_option maxHeartbeats 40000000 in
theorem rm0_1_1 (l : Launch) (Z : State) (av0 : Array Value) (hw : ∀ d ∈ tables_1, d.before av0 Z = true) (ws : List Jvm.Cond) (p0 : Int32) (p1 : Int32) (p2 : Int32) (p3 : Int32) (wC : Int32) (h0 : Heap) (n0 : Nat) (Z0 : n0 ≤ h0.size) (hS : Sta Z h0 "java/lang/String" "COMPACT_STRINGS" "Z" (.int wC)) (hw0 : ¬ wC = (0 : Int32)) (hkp : ∀ (b : Addr) (cl : Cell), Z.heap[b]? = some cl → h0[b]? = some cl) (hcH : Jvm.Lit.constHeld Z "java/lang/String" 7) (hcw : Jvm.Lit.compactW.before av0 Z = true) (hk : own_P p3 (3 : Int32) = (0 : Int32)) (he : XT.ushr p3 (9 : Int32) &&& (1 : Int32) = (1 : Int32)) :
    MetFree l x (head1 (Jvm.Cond.code x code maxLocals ret :: ws) room_1) (fun aU U => aU = #[(.int p0), (.int p1), (.int p2), (.int p3)] ∧ Z.Warmed39 U.vm ∧ U.heap = h0 ∧ IB Z U.vm []) (fun _ _ _ _ _ => True) (fun _ U oU U' => ∃ vU LU, oU = .returned vU ∧ Qrm0 Z p0 p1 p2 p3 wC h0 n0 vU U'.heap LU ∧ ReturnedEndW U oU U' LU room_1.cells room_1.slots) := by
  refine MetFree.of_bodySF (plainFor_of_name pn_OptionReaderOptionPinLaw) hisR ?_
  intro p e s m args below meth c s₁ Bd hml0 hP hK
  obtain ⟨rfl, hZ, hh, hI⟩ := hP
  have hx := Bd.exec
  have hby := Bd.bytes
  have hml : c.maxLocals = 15 := hml0
  have hown : s.vm.findClass "com/example/steady_courier/steadycourier/OptionReaderOptionPinLaw" = some m.cls := findClass_of_methodNamed Bd.named
  have hnm := (name_of_methodNamed Bd.named Bd.method).1
  have X0 : Stand p l e room_1 s m #[(.int p0), (.int p1), (.int p2), (.int p3)] below meth c s₁ [] 0 0 := Stand.of_body Bd
  have e0 : s₁.heap = h0 := by rw [← hh, Bd.state]; rfl
  have N0 := Fr.nil n0
  have pre0 : ∀ t, Steps p.tables e below (s₁.setTop (mkF m 0 #[iv p0, iv p1, iv p2, iv p3, .unset, .unset, .unset, .unset, .unset, .unset, .unset, .unset, .unset, .unset, .unset] [])) t → Steps p.tables e below (s₁.setTop (entryFrame m #[(.int p0), (.int p1), (.int p2), (.int p3)] maxLocals)) t := fun t k => castTop (by first | (simp [entryFrame, mkF, argsToLocals, Value.category, maxLocals]; done) | rfl) k
  have S1 : ∀ t, Steps p.tables e below (s₁.setTop (mkF m 16 #[iv p0, iv p1, iv p2, iv p3, iv (((1 : Int32) + (0 : Int32))), .unset, .unset, .unset, .unset, .unset, .unset, .unset, .unset, .unset, .unset] [(.int ((XT.ushr p3 (8 : Int32)) &&& (1 : Int32)))])) t → Steps p.tables e below (s₁.setTop (mkF m 0 #[iv p0, iv p1, iv p2, iv p3, .unset, .unset, .unset, .unset, .unset, .unset, .unset, .unset, .unset, .unset, .unset] [])) t := fun t k => id (by
    show Steps p.tables e below (s₁.setTop (mkF m 0 #[iv p0, iv p1, iv p2, iv p3, .unset, .unset, .unset, .unset, .unset, .unset, .unset, .unset, .unset, .unset, .unset] [])) _
    refine XT.iconstV X0.here hx rfl (1 : Int32) (hb hby at_0) (by decide) ?_
    refine XS.iloadN X0.here hx rfl (hb hby at_1) rfl ?_
    refine X0.ldcI hx hown (mvT hZ (hw _ (List.mem_of_getElem? (i := 0) rfl))) rfl (hb hby at_2) ?_
    refine XS.iand X0.here hx rfl (hb hby at_4) rfl ?_
    refine XT.iconstV X0.here hx rfl (3 : Int32) (hb hby at_5) (by decide) ?_
    refine XS.irem X0.here hx rfl (hb hby at_6) rfl (by decide) ?_
    show Steps p.tables e below (s₁.setTop (mkF m 7 #[iv p0, iv p1, iv p2, iv p3, .unset, .unset, .unset, .unset, .unset, .unset, .unset, .unset, .unset, .unset, .unset] [(.int ((p3 &&& (2147483647 : Int32)) - ((p3 &&& (2147483647 : Int32)) / (3 : Int32)) * (3 : Int32))), (.int (1 : Int32))])) _
    show Steps p.tables e below (s₁.setTop (mkF m 7 #[iv p0, iv p1, iv p2, iv p3, .unset, .unset, .unset, .unset, .unset, .unset, .unset, .unset, .unset, .unset, .unset] [(.int ((p3 &&& (2147483647 : Int32)) - ((p3 &&& (2147483647 : Int32)) / (3 : Int32)) * (3 : Int32))), (.int (1 : Int32))])) _
    show Steps p.tables e below (s₁.setTop (mkF m 7 #[iv p0, iv p1, iv p2, iv p3, .unset, .unset, .unset, .unset, .unset, .unset, .unset, .unset, .unset, .unset, .unset] [(.int (own_P p3 (3 : Int32))), (.int (1 : Int32))])) _
    rw [hk]
    show Steps p.tables e below (s₁.setTop (mkF m 7 #[iv p0, iv p1, iv p2, iv p3, .unset, .unset, .unset, .unset, .unset, .unset, .unset, .unset, .unset, .unset, .unset] [(.int (0 : Int32)), (.int (1 : Int32))])) _
    refine XS.iadd X0.here hx rfl (hb hby at_7) rfl ?_
    refine XS.istore X0.here hx rfl (hb hby at_8) rfl (l' := #[iv p0, iv p1, iv p2, iv p3, iv (((1 : Int32) + (0 : Int32))), .unset, .unset, .unset, .unset, .unset, .unset, .unset, .unset, .unset, .unset]) rfl ?_
    refine XS.iloadN X0.here hx rfl (hb hby at_10) rfl ?_
    refine XT.bipushV X0.here hx rfl (8 : Int32) (hb hby at_11) (by decide) ?_
    refine XT.iushr X0.here hx rfl (hb hby at_13) rfl ?_
    show Steps p.tables e below (s₁.setTop (mkF m 14 #[iv p0, iv p1, iv p2, iv p3, iv (((1 : Int32) + (0 : Int32))), .unset, .unset, .unset, .unset, .unset, .unset, .unset, .unset, .unset, .unset] [(.int (XT.ushr p3 (8 : Int32)))])) _
    refine XT.iconstV X0.here hx rfl (1 : Int32) (hb hby at_14) (by decide) ?_
    refine XS.iand X0.here hx rfl (hb hby at_15) rfl ?_
    exact k)
  by_cases hc16_2 : ((XT.ushr p3 (8 : Int32)) &&& (1 : Int32)) = (0 : Int32)
  · obtain ⟨T3, h3, X3, e3, E3, A3, D3, -, st3⟩ := newO X0 hx hZ hown (hw _ (List.mem_of_getElem? (i := 1) rfl)) (hw _ (List.mem_of_getElem? (i := 2) rfl)) (hw _ (List.mem_of_getElem? (i := 3) rfl)) e0 (g := (mkF m 47 #[iv p0, iv p1, iv p2, iv p3, iv (((1 : Int32) + (0 : Int32))), iv (0 : Int32), iv (1 : Int32), .unset, .unset, .unset, .unset, .unset, .unset, .unset, .unset] [])) rfl (hb hby at_47) (by decide) (by decide)
    obtain ⟨b3, g3⟩ : ∃ z, z = h0.size := ⟨_, rfl⟩
    rw [← g3] at A3 D3 st3
    have ge_b3 : n0 ≤ b3 := Nat.le_trans Z0 (Nat.le_of_eq g3.symm)
    have sz_b3 : h0.size ≤ b3 := Nat.le_of_eq g3.symm
    have Z3 : n0 ≤ h3.size := Nat.le_trans Z0 E3.1
    have K3 : Keep h0 h3 [] := (Keep.refl h0 []).ext E3
    have F3_coder : Fld Z h3 b3 "java/lang/String" "coder" "B" (.int (0 : Int32)) := D3 (Or.inr (hw _ (List.mem_of_getElem? (i := 28) rfl))) (ty := .byte) (by decide)
    have F3_value : Fld Z h3 b3 "java/lang/String" "value" "[B" .null := D3 (Or.inr (hw _ (List.mem_of_getElem? (i := 30) rfl))) (ty := (.array .byte)) (by decide)
    obtain ⟨T4, h4, k4, X4, e4, E4, A4, st4⟩ := newP X3 hx hZ (hw _ (List.mem_of_getElem? (i := 4) rfl)) e3 (g := (mkF m 52 #[iv p0, iv p1, iv p2, iv p3, iv (((1 : Int32) + (0 : Int32))), iv (0 : Int32), iv (1 : Int32), .unset, .unset, .unset, .unset, .unset, .unset, .unset, .unset] [(.int (0 : Int32)), (.ref b3), (.ref b3)])) rfl (hb hby at_52) rfl (by decide) (cap := 0) (by decide) (by decide) (by decide) (by decide)
    obtain ⟨b4, g4⟩ : ∃ z, z = h3.size := ⟨_, rfl⟩
    rw [← g4] at A4 st4
    have ne_b3_b4 : b3 ≠ b4 := Nat.ne_of_lt (Nat.lt_of_lt_of_le A3.lt (Nat.le_of_eq g4.symm))
    have ge_b4 : n0 ≤ b4 := Nat.le_trans Z3 (Nat.le_of_eq g4.symm)
    have sz_b4 : h0.size ≤ b4 := Nat.le_trans K3.1 (Nat.le_of_eq g4.symm)
    have Z4 : n0 ≤ h4.size := Nat.le_trans Z3 E4.1
    have K4 : Keep h0 h4 [] := K3.ext E4
    have V4 : Arv Z h4 b4 k4 .char (0 : Int32) [] (.int (0 : Int32)) := Arv.new A4 (by decide)
    have f5 := (A3.ext E4)
    have f6 := (F3_value.ext E4)
    have f7 := (F3_coder.ext E4)
    have S9 : ∀ t, Steps p.tables e below (T4.setTop (mkF m 54 #[iv p0, iv p1, iv p2, iv p3, iv (((1 : Int32) + (0 : Int32))), iv (0 : Int32), iv (1 : Int32), .unset, .unset, .unset, .unset, .unset, .unset, .unset, .unset] [(.ref b4), (.ref b3), (.ref b3)])) t → Steps p.tables e below (s₁.setTop (mkF m 0 #[iv p0, iv p1, iv p2, iv p3, .unset, .unset, .unset, .unset, .unset, .unset, .unset, .unset, .unset, .unset, .unset] [])) t := fun t k => S1 t (by
      show Steps p.tables e below (s₁.setTop (mkF m 16 #[iv p0, iv p1, iv p2, iv p3, iv (((1 : Int32) + (0 : Int32))), .unset, .unset, .unset, .unset, .unset, .unset, .unset, .unset, .unset, .unset] [(.int ((XT.ushr p3 (8 : Int32)) &&& (1 : Int32)))])) _
      refine XS.ifYes X0.here hx rfl (pc0 := 16) (pc' := 23) rfl (hb hby at_16) rfl (XT.i0_eq_t hc16_2) (by decide) (by decide) ?_
      refine XT.iconstV X0.here hx rfl (0 : Int32) (hb hby at_23) (by decide) ?_
      refine XS.istore X0.here hx rfl (hb hby at_24) rfl (l' := #[iv p0, iv p1, iv p2, iv p3, iv (((1 : Int32) + (0 : Int32))), iv (0 : Int32), .unset, .unset, .unset, .unset, .unset, .unset, .unset, .unset, .unset]) rfl ?_
      refine XS.iloadN X0.here hx rfl (hb hby at_26) rfl ?_
      show Steps p.tables e below (s₁.setTop (mkF m 27 #[iv p0, iv p1, iv p2, iv p3, iv (((1 : Int32) + (0 : Int32))), iv (0 : Int32), .unset, .unset, .unset, .unset, .unset, .unset, .unset, .unset, .unset] [(.int p3)])) _
      refine XT.bipushV X0.here hx rfl (9 : Int32) (hb hby at_27) (by decide) ?_
      refine XT.iushr X0.here hx rfl (hb hby at_29) rfl ?_
      refine XT.iconstV X0.here hx rfl (1 : Int32) (hb hby at_30) (by decide) ?_
      refine XS.iand X0.here hx rfl (hb hby at_31) rfl ?_
      show Steps p.tables e below (s₁.setTop (mkF m 32 #[iv p0, iv p1, iv p2, iv p3, iv (((1 : Int32) + (0 : Int32))), iv (0 : Int32), .unset, .unset, .unset, .unset, .unset, .unset, .unset, .unset, .unset] [(.int ((XT.ushr p3 (9 : Int32)) &&& (1 : Int32)))])) _
      rw [he]
      show Steps p.tables e below (s₁.setTop (mkF m 32 #[iv p0, iv p1, iv p2, iv p3, iv (((1 : Int32) + (0 : Int32))), iv (0 : Int32), .unset, .unset, .unset, .unset, .unset, .unset, .unset, .unset, .unset] [(.int (1 : Int32))])) _
      refine XS.ifNo X0.here hx rfl (hb hby at_32) rfl (XT.i0_eq_f (by decide)) ?_
      show Steps p.tables e below (s₁.setTop (mkF m 35 #[iv p0, iv p1, iv p2, iv p3, iv (((1 : Int32) + (0 : Int32))), iv (0 : Int32), .unset, .unset, .unset, .unset, .unset, .unset, .unset, .unset, .unset] [])) _
      refine XT.iconstV X0.here hx rfl (1 : Int32) (hb hby at_35) (by decide) ?_
      refine XS.goto X0.here hx rfl (pc0 := 36) (pc' := 40) rfl (hb hby at_36) (by decide) (by decide) ?_
      refine XS.istore X0.here hx rfl (hb hby at_40) rfl (l' := #[iv p0, iv p1, iv p2, iv p3, iv (((1 : Int32) + (0 : Int32))), iv (0 : Int32), iv (1 : Int32), .unset, .unset, .unset, .unset, .unset, .unset, .unset, .unset]) rfl ?_
      refine XS.iload X0.here hx rfl (hb hby at_42) rfl ?_
      refine XS.ifNo X0.here hx rfl (hb hby at_44) rfl (XT.i0_eq_f (by decide)) ?_
      refine st3 _ ?_
      show Steps p.tables e below (T3.setTop (mkF m 50 #[iv p0, iv p1, iv p2, iv p3, iv (((1 : Int32) + (0 : Int32))), iv (0 : Int32), iv (1 : Int32), .unset, .unset, .unset, .unset, .unset, .unset, .unset, .unset] [(.ref b3)])) _
      refine XS.dup X3.here hx rfl (hb hby at_50) rfl rfl ?_
      refine XT.iconstV X3.here hx rfl (0 : Int32) (hb hby at_51) (by decide) ?_
      refine st4 _ ?_
      exact k)
    obtain ⟨_, T8, Lc8, X8, hS8, hQ8, st8⟩ := own_specialI (W := 1) (y := mN4) X4 hx hZ rfl hown (hw _ (List.mem_of_getElem? (i := 5) rfl)) (hw _ (List.mem_of_getElem? (i := 6) rfl)) (hw _ (List.mem_of_getElem? (i := 7) rfl)) (hw _ (List.mem_of_getElem? (i := 3) rfl)) (by decide) (rmSi2_e l Z av0 hw [] b3 b4 k4 h4 n0 Z4 f5 f6 f7 ge_b3 V4 (fun b cl q => K4.2.1 b cl (hkp b cl q) nin0) hcH hcw) (by decide) (by decide) hI (g := (mkF m 54 #[iv p0, iv p1, iv p2, iv p3, iv (((1 : Int32) + (0 : Int32))), iv (0 : Int32), iv (1 : Int32), .unset, .unset, .unset, .unset, .unset, .unset, .unset, .unset] [(.ref b4), (.ref b3), (.ref b3)])) rfl (by rw [hml]; rfl) (a := b3) (argsL := [(.ref b4)]) (rest := [(.ref b3)]) (lenOf pd__C_V rfl) rfl (by show 2 * 0 + _ ≤ _; exact Nat.le_of_eq rfl) (hb hby at_54) rfl e4 (by decide : 2 + 2 ≤ _) (by decide : 4 + 4 ≤ _)
    have hZ := State.Warmed39.trans (t := s) hZ hS8.1
    have hown : (s.setVm T8.vm).vm.findClass "com/example/steady_courier/steadycourier/OptionReaderOptionPinLaw" = some m.cls := by rw [show (s.setVm T8.vm).vm = T8.vm from rfl, hS8.1.alike.findClass]; exact hown
    obtain ⟨rfl, N8q, K8, FC8, b8, kb8, FV8, V8⟩ := hQ8
    have N8 := Fr.app N0 N8q
    have e8 : T8.heap = T8.heap := rfl
    have Zk8 : n0 ≤ T8.heap.size := Nat.le_trans Z4 K8.1
    have Kk8 : Keep h0 T8.heap [] := K4.trans K8 (allS (Or.inr sz_b3) all0)
    have f10 := (f5.keep K8)
    have ne_b3_b8 : b3 ≠ b8 := f10.neArv V8 (hw _ (List.mem_of_getElem? (i := 2) rfl))
    obtain ⟨T11, h11, X11, e11, E11, A11, D11, -, st11⟩ := newO X8 hx hZ hown (hw _ (List.mem_of_getElem? (i := 1) rfl)) (hw _ (List.mem_of_getElem? (i := 2) rfl)) (hw _ (List.mem_of_getElem? (i := 3) rfl)) e8 (g := (mkF m 86 #[iv p0, iv p1, iv p2, iv p3, iv (((1 : Int32) + (0 : Int32))), iv (0 : Int32), iv (1 : Int32), rv b3, .unset, .unset, .unset, .unset, .unset, .unset, .unset] [])) rfl (hb hby at_86) (by decide) (by decide)
    obtain ⟨b11, g11⟩ : ∃ z, z = T8.heap.size := ⟨_, rfl⟩
    rw [← g11] at A11 D11 st11
    have ne_b3_b11 : b3 ≠ b11 := Nat.ne_of_lt (Nat.lt_of_lt_of_le f10.lt (Nat.le_of_eq g11.symm))
    have f12 := (V4.keep K8 (ninS (Ne.symm ne_b3_b4) nin0))
    have ne_b4_b11 : b4 ≠ b11 := Nat.ne_of_lt (Nat.lt_of_lt_of_le f12.lt (Nat.le_of_eq g11.symm))
    have ne_b8_b11 : b8 ≠ b11 := Nat.ne_of_lt (Nat.lt_of_lt_of_le V8.lt (Nat.le_of_eq g11.symm))
    have ge_b11 : n0 ≤ b11 := Nat.le_trans Zk8 (Nat.le_of_eq g11.symm)
    have sz_b11 : h0.size ≤ b11 := Nat.le_trans Kk8.1 (Nat.le_of_eq g11.symm)
    have Z11 : n0 ≤ h11.size := Nat.le_trans Zk8 E11.1
    have K11 : Keep h0 h11 [] := Kk8.ext E11
    have F11_coder : Fld Z h11 b11 "java/lang/String" "coder" "B" (.int (0 : Int32)) := D11 (Or.inr (hw _ (List.mem_of_getElem? (i := 28) rfl))) (ty := .byte) (by decide)
    have F11_value : Fld Z h11 b11 "java/lang/String" "value" "[B" .null := D11 (Or.inr (hw _ (List.mem_of_getElem? (i := 30) rfl))) (ty := (.array .byte)) (by decide)
    obtain ⟨T13, h13, k13, X13, e13, E13, A13, st13⟩ := newP X11 hx hZ (hw _ (List.mem_of_getElem? (i := 4) rfl)) e11 (g := (mkF m 91 #[iv p0, iv p1, iv p2, iv p3, iv (((1 : Int32) + (0 : Int32))), iv (0 : Int32), iv (1 : Int32), rv b3, .unset, .unset, .unset, .unset, .unset, .unset, .unset] [(.int (2 : Int32)), (.ref b11), (.ref b11)])) rfl (hb hby at_91) rfl (by decide) (cap := 2) (by decide) (by decide) (by decide) (by decide)
    obtain ⟨b13, g13⟩ : ∃ z, z = h11.size := ⟨_, rfl⟩
    rw [← g13] at A13 st13
    have ne_b11_b13 : b11 ≠ b13 := Nat.ne_of_lt (Nat.lt_of_lt_of_le A11.lt (Nat.le_of_eq g13.symm))
    have f14 := (f10.ext E11)
    have ne_b3_b13 : b3 ≠ b13 := Nat.ne_of_lt (Nat.lt_of_lt_of_le f14.lt (Nat.le_of_eq g13.symm))
    have f15 := (f12.ext E11)
    have ne_b4_b13 : b4 ≠ b13 := Nat.ne_of_lt (Nat.lt_of_lt_of_le f15.lt (Nat.le_of_eq g13.symm))
    have f16 := (V8.ext E11)
    have ne_b8_b13 : b8 ≠ b13 := Nat.ne_of_lt (Nat.lt_of_lt_of_le f16.lt (Nat.le_of_eq g13.symm))
    have ge_b13 : n0 ≤ b13 := Nat.le_trans Z11 (Nat.le_of_eq g13.symm)
    have sz_b13 : h0.size ≤ b13 := Nat.le_trans K11.1 (Nat.le_of_eq g13.symm)
    have Z13 : n0 ≤ h13.size := Nat.le_trans Z11 E13.1
    have K13 : Keep h0 h13 [] := K11.ext E13
    have V13 : Arv Z h13 b13 k13 .char (2 : Int32) [(.int (0 : Int32)), (.int (0 : Int32))] (.int (0 : Int32)) := (Arv.new A13 (by decide)).pad (pad_rep [] (.int (0 : Int32)) 2)
    obtain ⟨cl17, Ar17, qk17, Sz17, Ng17, Hs17, Gs17⟩ := id V13
    have hin17 : ¬ ((0 : Int32) < 0 ∨ cl17.slots.size ≤ ((0 : Int32)).toNatClampNeg) := inb_of Sz17 ⟨by decide, by decide⟩
    obtain ⟨T18, h18, X18, e18, W18, st18⟩ := stC X13 hx hZ e13 Ar17 (j := (0 : Int32)) hin17 (g := (mkF m 101 #[iv p0, iv p1, iv p2, iv p3, iv (((1 : Int32) + (0 : Int32))), iv (0 : Int32), iv (1 : Int32), rv b3, .unset, .unset, .unset, .unset, .unset, .unset, .unset] [(.int ((p1 &&& (255 : Int32))).toUInt32.toUInt16.toUInt32.toInt32), (.int (0 : Int32)), (.ref b13), (.ref b13), (.ref b11), (.ref b11)])) rfl rfl (hb hby at_101)
    have N18 := Fr.snoc X18 N8 ge_b13
    have Z18 : n0 ≤ h18.size := Nat.le_trans Z13 (Nat.le_of_eq W18.size.symm)
    have K18 : Keep h0 h18 [] := K13.wr W18 (Or.inr sz_b13)
    have V18 : Arv Z h18 b13 k13 .char (2 : Int32) [(.int (nar .char ((p1 &&& (255 : Int32))).toUInt32.toUInt16.toUInt32.toInt32)), (.int (0 : Int32))] (.int (0 : Int32)) := Arv.set Ar17 qk17 Sz17 Ng17 Hs17 Gs17 (fits_nar_char _) W18 0 rfl (Nat.le_of_ble_eq_true rfl)
    obtain ⟨cl19, Ar19, qk19, Sz19, Ng19, Hs19, Gs19⟩ := id V18
    have hin19 : ¬ ((1 : Int32) < 0 ∨ cl19.slots.size ≤ ((1 : Int32)).toNatClampNeg) := inb_of Sz19 ⟨by decide, by decide⟩
    obtain ⟨T20, h20, X20, e20, W20, st20⟩ := stC X18 hx hZ e18 Ar19 (j := (1 : Int32)) hin19 (g := (mkF m 106 #[iv p0, iv p1, iv p2, iv p3, iv (((1 : Int32) + (0 : Int32))), iv (0 : Int32), iv (1 : Int32), rv b3, .unset, .unset, .unset, .unset, .unset, .unset, .unset] [(.int (98 : Int32)), (.int (1 : Int32)), (.ref b13), (.ref b13), (.ref b11), (.ref b11)])) rfl rfl (hb hby at_106)
    have N20 := Fr.snoc X20 N18 ge_b13
    have Z20 : n0 ≤ h20.size := Nat.le_trans Z18 (Nat.le_of_eq W20.size.symm)
    have K20 : Keep h0 h20 [] := K18.wr W20 (Or.inr sz_b13)
    have V20 : Arv Z h20 b13 k13 .char (2 : Int32) [(.int (nar .char ((p1 &&& (255 : Int32))).toUInt32.toUInt16.toUInt32.toInt32)), (.int (nar .char (98 : Int32)))] (.int (0 : Int32)) := Arv.set Ar19 qk19 Sz19 Ng19 Hs19 Gs19 (fits_nar_char _) W20 1 rfl (Nat.le_of_ble_eq_true rfl)
    have f21 := (((A11.ext E13).wr W18).wr W20)
    have f22 := (((F11_value.ext E13).other W18 (Or.inl ne_b11_b13)).other W20 (Or.inl ne_b11_b13))
    have f23 := (((F11_coder.ext E13).other W18 (Or.inl ne_b11_b13)).other W20 (Or.inl ne_b11_b13))
    have f24 := (((((own_stak ((hS.ext E3).ext E4) K8 (allS (own_exns f5) all0)).ext E11).ext E13).wr W18).wr W20)
    obtain ⟨_, T25, Lc25, X25, hQ25, st25⟩ := own_special (W := 1) (y := mN4) X20 hx hZ rfl hown (hw _ (List.mem_of_getElem? (i := 5) rfl)) (hw _ (List.mem_of_getElem? (i := 6) rfl)) (hw _ (List.mem_of_getElem? (i := 7) rfl)) (hw _ (List.mem_of_getElem? (i := 3) rfl)) (by decide) (rmSi2_2 l Z av0 hw [] b11 b13 k13 wC (nar .char ((p1 &&& (255 : Int32))).toUInt32.toUInt16.toUInt32.toInt32) (nar .char (98 : Int32)) h20 n0 Z20 f21 f22 f23 ge_b11 V20 f24 hw0 (own_ch p1) (by decide)) (by decide) (by decide) (g := (mkF m 107 #[iv p0, iv p1, iv p2, iv p3, iv (((1 : Int32) + (0 : Int32))), iv (0 : Int32), iv (1 : Int32), rv b3, .unset, .unset, .unset, .unset, .unset, .unset, .unset] [(.ref b13), (.ref b11), (.ref b11)])) rfl (by rw [hml]; rfl) (a := b11) (argsL := [(.ref b13)]) (rest := [(.ref b11)]) (lenOf pd__C_V rfl) rfl (by show 2 * 0 + _ ≤ _; exact Nat.le_of_eq rfl) (hb hby at_107) rfl e20 (by decide : 6 + 1 ≤ _) (by decide : 14 + 2 ≤ _)
    obtain ⟨rfl, N25q, K25, FC25, b25, kb25, FV25, V25, gb25⟩ := hQ25
    have N25 := Fr.app N20 N25q
    have e25 : T25.heap = T25.heap := rfl
    have ne_b11_b25 : b11 ≠ b25 := Nat.ne_of_lt (Nat.lt_of_lt_of_le f21.lt gb25)
    have ne_b13_b25 : b13 ≠ b25 := Nat.ne_of_lt (Nat.lt_of_lt_of_le V20.lt gb25)
    have f26 := (((f14.ext E13).wr W18).wr W20)
    have ne_b3_b25 : b3 ≠ b25 := Nat.ne_of_lt (Nat.lt_of_lt_of_le f26.lt gb25)
    have f27 := (((f15.ext E13).other W18 ne_b4_b13).other W20 ne_b4_b13)
    have ne_b4_b25 : b4 ≠ b25 := Nat.ne_of_lt (Nat.lt_of_lt_of_le f27.lt gb25)
    have f28 := (((f16.ext E13).other W18 ne_b8_b13).other W20 ne_b8_b13)
    have ne_b8_b25 : b8 ≠ b25 := Nat.ne_of_lt (Nat.lt_of_lt_of_le f28.lt gb25)
    have ge_b25 : n0 ≤ b25 := Nat.le_trans Z20 gb25
    have sz_b25 : h0.size ≤ b25 := Nat.le_trans K20.1 gb25
    have Zk25 : n0 ≤ T25.heap.size := Nat.le_trans Z20 K25.1
    have Kk25 : Keep h0 T25.heap [] := K20.trans K25 (allS (Or.inr sz_b11) all0)
    obtain ⟨T29, h29, X29, e29, E29, A29, D29, -, st29⟩ := newO X25 hx hZ hown (hw _ (List.mem_of_getElem? (i := 1) rfl)) (hw _ (List.mem_of_getElem? (i := 2) rfl)) (hw _ (List.mem_of_getElem? (i := 3) rfl)) e25 (g := (mkF m 112 #[iv p0, iv p1, iv p2, iv p3, iv (((1 : Int32) + (0 : Int32))), iv (0 : Int32), iv (1 : Int32), rv b3, rv b11, .unset, .unset, .unset, .unset, .unset, .unset] [])) rfl (hb hby at_112) (by decide) (by decide)
    obtain ⟨b29, g29⟩ : ∃ z, z = T25.heap.size := ⟨_, rfl⟩
    rw [← g29] at A29 D29 st29
    have f30 := (f21.keep K25)
    have ne_b11_b29 : b11 ≠ b29 := Nat.ne_of_lt (Nat.lt_of_lt_of_le f30.lt (Nat.le_of_eq g29.symm))
    have f31 := (V20.keep K25 (ninS (Ne.symm ne_b11_b13) nin0))
    have ne_b13_b29 : b13 ≠ b29 := Nat.ne_of_lt (Nat.lt_of_lt_of_le f31.lt (Nat.le_of_eq g29.symm))
    have ne_b25_b29 : b25 ≠ b29 := Nat.ne_of_lt (Nat.lt_of_lt_of_le V25.lt (Nat.le_of_eq g29.symm))
    have f32 := (f26.keep K25)
    have ne_b3_b29 : b3 ≠ b29 := Nat.ne_of_lt (Nat.lt_of_lt_of_le f32.lt (Nat.le_of_eq g29.symm))
    have f33 := (f27.keep K25 (ninS ne_b4_b11 nin0))
    have ne_b4_b29 : b4 ≠ b29 := Nat.ne_of_lt (Nat.lt_of_lt_of_le f33.lt (Nat.le_of_eq g29.symm))
    have f34 := (f28.keep K25 (ninS ne_b8_b11 nin0))
    have ne_b8_b29 : b8 ≠ b29 := Nat.ne_of_lt (Nat.lt_of_lt_of_le f34.lt (Nat.le_of_eq g29.symm))
    have ge_b29 : n0 ≤ b29 := Nat.le_trans Zk25 (Nat.le_of_eq g29.symm)
    have sz_b29 : h0.size ≤ b29 := Nat.le_trans Kk25.1 (Nat.le_of_eq g29.symm)
    have Z29 : n0 ≤ h29.size := Nat.le_trans Zk25 E29.1
    have K29 : Keep h0 h29 [] := Kk25.ext E29
    have F29_coder : Fld Z h29 b29 "java/lang/String" "coder" "B" (.int (0 : Int32)) := D29 (Or.inr (hw _ (List.mem_of_getElem? (i := 28) rfl))) (ty := .byte) (by decide)
    have F29_value : Fld Z h29 b29 "java/lang/String" "value" "[B" .null := D29 (Or.inr (hw _ (List.mem_of_getElem? (i := 30) rfl))) (ty := (.array .byte)) (by decide)
    obtain ⟨T35, h35, k35, X35, e35, E35, A35, st35⟩ := newP X29 hx hZ (hw _ (List.mem_of_getElem? (i := 4) rfl)) e29 (g := (mkF m 117 #[iv p0, iv p1, iv p2, iv p3, iv (((1 : Int32) + (0 : Int32))), iv (0 : Int32), iv (1 : Int32), rv b3, rv b11, .unset, .unset, .unset, .unset, .unset, .unset] [(.int (2 : Int32)), (.ref b29), (.ref b29)])) rfl (hb hby at_117) rfl (by decide) (cap := 2) (by decide) (by decide) (by decide) (by decide)
    obtain ⟨b35, g35⟩ : ∃ z, z = h29.size := ⟨_, rfl⟩
    rw [← g35] at A35 st35
    have f36 := (f30.ext E29)
    have ne_b11_b35 : b11 ≠ b35 := Nat.ne_of_lt (Nat.lt_of_lt_of_le f36.lt (Nat.le_of_eq g35.symm))
    have f37 := (f31.ext E29)
    have ne_b13_b35 : b13 ≠ b35 := Nat.ne_of_lt (Nat.lt_of_lt_of_le f37.lt (Nat.le_of_eq g35.symm))
    have f38 := (V25.ext E29)
    have ne_b25_b35 : b25 ≠ b35 := Nat.ne_of_lt (Nat.lt_of_lt_of_le f38.lt (Nat.le_of_eq g35.symm))
    have ne_b29_b35 : b29 ≠ b35 := Nat.ne_of_lt (Nat.lt_of_lt_of_le A29.lt (Nat.le_of_eq g35.symm))
    have f39 := (f32.ext E29)
    have ne_b3_b35 : b3 ≠ b35 := Nat.ne_of_lt (Nat.lt_of_lt_of_le f39.lt (Nat.le_of_eq g35.symm))
    have f40 := (f33.ext E29)
    have ne_b4_b35 : b4 ≠ b35 := Nat.ne_of_lt (Nat.lt_of_lt_of_le f40.lt (Nat.le_of_eq g35.symm))
    have f41 := (f34.ext E29)
    have ne_b8_b35 : b8 ≠ b35 := Nat.ne_of_lt (Nat.lt_of_lt_of_le f41.lt (Nat.le_of_eq g35.symm))
    have ge_b35 : n0 ≤ b35 := Nat.le_trans Z29 (Nat.le_of_eq g35.symm)
    have sz_b35 : h0.size ≤ b35 := Nat.le_trans K29.1 (Nat.le_of_eq g35.symm)
    have Z35 : n0 ≤ h35.size := Nat.le_trans Z29 E35.1
    have K35 : Keep h0 h35 [] := K29.ext E35
    have V35 : Arv Z h35 b35 k35 .char (2 : Int32) [(.int (0 : Int32)), (.int (0 : Int32))] (.int (0 : Int32)) := (Arv.new A35 (by decide)).pad (pad_rep [] (.int (0 : Int32)) 2)
    obtain ⟨cl42, Ar42, qk42, Sz42, Ng42, Hs42, Gs42⟩ := id V35
    have hin42 : ¬ ((0 : Int32) < 0 ∨ cl42.slots.size ≤ ((0 : Int32)).toNatClampNeg) := inb_of Sz42 ⟨by decide, by decide⟩
    obtain ⟨T43, h43, X43, e43, W43, st43⟩ := stC X35 hx hZ e35 Ar42 (j := (0 : Int32)) hin42 (g := (mkF m 127 #[iv p0, iv p1, iv p2, iv p3, iv (((1 : Int32) + (0 : Int32))), iv (0 : Int32), iv (1 : Int32), rv b3, rv b11, .unset, .unset, .unset, .unset, .unset, .unset] [(.int ((p2 &&& (255 : Int32))).toUInt32.toUInt16.toUInt32.toInt32), (.int (0 : Int32)), (.ref b35), (.ref b35), (.ref b29), (.ref b29)])) rfl rfl (hb hby at_127)
    have N43 := Fr.snoc X43 N25 ge_b35
    have Z43 : n0 ≤ h43.size := Nat.le_trans Z35 (Nat.le_of_eq W43.size.symm)
    have K43 : Keep h0 h43 [] := K35.wr W43 (Or.inr sz_b35)
    have V43 : Arv Z h43 b35 k35 .char (2 : Int32) [(.int (nar .char ((p2 &&& (255 : Int32))).toUInt32.toUInt16.toUInt32.toInt32)), (.int (0 : Int32))] (.int (0 : Int32)) := Arv.set Ar42 qk42 Sz42 Ng42 Hs42 Gs42 (fits_nar_char _) W43 0 rfl (Nat.le_of_ble_eq_true rfl)
    obtain ⟨cl44, Ar44, qk44, Sz44, Ng44, Hs44, Gs44⟩ := id V43
    have hin44 : ¬ ((1 : Int32) < 0 ∨ cl44.slots.size ≤ ((1 : Int32)).toNatClampNeg) := inb_of Sz44 ⟨by decide, by decide⟩
    obtain ⟨T45, h45, X45, e45, W45, st45⟩ := stC X43 hx hZ e43 Ar44 (j := (1 : Int32)) hin44 (g := (mkF m 132 #[iv p0, iv p1, iv p2, iv p3, iv (((1 : Int32) + (0 : Int32))), iv (0 : Int32), iv (1 : Int32), rv b3, rv b11, .unset, .unset, .unset, .unset, .unset, .unset] [(.int (99 : Int32)), (.int (1 : Int32)), (.ref b35), (.ref b35), (.ref b29), (.ref b29)])) rfl rfl (hb hby at_132)
    have N45 := Fr.snoc X45 N43 ge_b35
    have Z45 : n0 ≤ h45.size := Nat.le_trans Z43 (Nat.le_of_eq W45.size.symm)
    have K45 : Keep h0 h45 [] := K43.wr W45 (Or.inr sz_b35)
    have V45 : Arv Z h45 b35 k35 .char (2 : Int32) [(.int (nar .char ((p2 &&& (255 : Int32))).toUInt32.toUInt16.toUInt32.toInt32)), (.int (nar .char (99 : Int32)))] (.int (0 : Int32)) := Arv.set Ar44 qk44 Sz44 Ng44 Hs44 Gs44 (fits_nar_char _) W45 1 rfl (Nat.le_of_ble_eq_true rfl)
    have f46 := (((A29.ext E35).wr W43).wr W45)
    have f47 := (((F29_value.ext E35).other W43 (Or.inl ne_b29_b35)).other W45 (Or.inl ne_b29_b35))
    have f48 := (((F29_coder.ext E35).other W43 (Or.inl ne_b29_b35)).other W45 (Or.inl ne_b29_b35))
    have f49 := (((((own_stak f24 K25 (allS (own_exns f21) all0)).ext E29).ext E35).wr W43).wr W45)
    obtain ⟨_, T50, Lc50, X50, hQ50, st50⟩ := own_special (W := 1) (y := mN4) X45 hx hZ rfl hown (hw _ (List.mem_of_getElem? (i := 5) rfl)) (hw _ (List.mem_of_getElem? (i := 6) rfl)) (hw _ (List.mem_of_getElem? (i := 7) rfl)) (hw _ (List.mem_of_getElem? (i := 3) rfl)) (by decide) (rmSi2_2 l Z av0 hw [] b29 b35 k35 wC (nar .char ((p2 &&& (255 : Int32))).toUInt32.toUInt16.toUInt32.toInt32) (nar .char (99 : Int32)) h45 n0 Z45 f46 f47 f48 ge_b29 V45 f49 hw0 (own_ch p2) (by decide)) (by decide) (by decide) (g := (mkF m 133 #[iv p0, iv p1, iv p2, iv p3, iv (((1 : Int32) + (0 : Int32))), iv (0 : Int32), iv (1 : Int32), rv b3, rv b11, .unset, .unset, .unset, .unset, .unset, .unset] [(.ref b35), (.ref b29), (.ref b29)])) rfl (by rw [hml]; rfl) (a := b29) (argsL := [(.ref b35)]) (rest := [(.ref b29)]) (lenOf pd__C_V rfl) rfl (by show 2 * 0 + _ ≤ _; exact Nat.le_of_eq rfl) (hb hby at_133) rfl e45 (by decide : 9 + 1 ≤ _) (by decide : 22 + 2 ≤ _)
    obtain ⟨rfl, N50q, K50, FC50, b50, kb50, FV50, V50, gb50⟩ := hQ50
    have N50 := Fr.app N45 N50q
    have e50 : T50.heap = T50.heap := rfl
    have f51 := (((f36.ext E35).wr W43).wr W45)
    have ne_b11_b50 : b11 ≠ b50 := Nat.ne_of_lt (Nat.lt_of_lt_of_le f51.lt gb50)
    have f52 := (((f37.ext E35).other W43 ne_b13_b35).other W45 ne_b13_b35)
    have ne_b13_b50 : b13 ≠ b50 := Nat.ne_of_lt (Nat.lt_of_lt_of_le f52.lt gb50)
    have f53 := (((f38.ext E35).other W43 ne_b25_b35).other W45 ne_b25_b35)
    have ne_b25_b50 : b25 ≠ b50 := Nat.ne_of_lt (Nat.lt_of_lt_of_le f53.lt gb50)
    have ne_b29_b50 : b29 ≠ b50 := Nat.ne_of_lt (Nat.lt_of_lt_of_le f46.lt gb50)
    have f54 := (((f39.ext E35).wr W43).wr W45)
    have ne_b3_b50 : b3 ≠ b50 := Nat.ne_of_lt (Nat.lt_of_lt_of_le f54.lt gb50)
    have ne_b35_b50 : b35 ≠ b50 := Nat.ne_of_lt (Nat.lt_of_lt_of_le V45.lt gb50)
    have f55 := (((f40.ext E35).other W43 ne_b4_b35).other W45 ne_b4_b35)
    have ne_b4_b50 : b4 ≠ b50 := Nat.ne_of_lt (Nat.lt_of_lt_of_le f55.lt gb50)
    have f56 := (((f41.ext E35).other W43 ne_b8_b35).other W45 ne_b8_b35)
    have ne_b8_b50 : b8 ≠ b50 := Nat.ne_of_lt (Nat.lt_of_lt_of_le f56.lt gb50)
    have ge_b50 : n0 ≤ b50 := Nat.le_trans Z45 gb50
    have sz_b50 : h0.size ≤ b50 := Nat.le_trans K45.1 gb50
    have Zk50 : n0 ≤ T50.heap.size := Nat.le_trans Z45 K50.1
    have Kk50 : Keep h0 T50.heap [] := K45.trans K50 (allS (Or.inr sz_b29) all0)
    obtain ⟨T57, h57, k57, X57, e57, E57, A57, O57, st57⟩ := newR X50 hx hZ hown (hw _ (List.mem_of_getElem? (i := 1) rfl)) (hw _ (List.mem_of_getElem? (i := 31) rfl)) e50 (g := (mkF m 140 #[iv p0, iv p1, iv p2, iv p3, iv (((1 : Int32) + (0 : Int32))), iv (0 : Int32), iv (1 : Int32), rv b3, rv b11, rv b29, .unset, .unset, .unset, .unset, .unset] [(.int ((1 : Int32) + (0 : Int32)))])) rfl (hb hby at_140) rfl (by decide) (cap := 1) (by decide) (by decide) (by decide) (by decide)
    obtain ⟨b57, g57⟩ : ∃ z, z = T50.heap.size := ⟨_, rfl⟩
    rw [← g57] at A57 st57
    have f58 := (f51.keep K50)
    have ne_b11_b57 : b11 ≠ b57 := Nat.ne_of_lt (Nat.lt_of_lt_of_le f58.lt (Nat.le_of_eq g57.symm))
    have f59 := (f52.keep K50 (ninS ne_b13_b29 nin0))
    have ne_b13_b57 : b13 ≠ b57 := Nat.ne_of_lt (Nat.lt_of_lt_of_le f59.lt (Nat.le_of_eq g57.symm))
    have f60 := (f53.keep K50 (ninS ne_b25_b29 nin0))
    have ne_b25_b57 : b25 ≠ b57 := Nat.ne_of_lt (Nat.lt_of_lt_of_le f60.lt (Nat.le_of_eq g57.symm))
    have f61 := (f46.keep K50)
    have ne_b29_b57 : b29 ≠ b57 := Nat.ne_of_lt (Nat.lt_of_lt_of_le f61.lt (Nat.le_of_eq g57.symm))
    have f62 := (f54.keep K50)
    have ne_b3_b57 : b3 ≠ b57 := Nat.ne_of_lt (Nat.lt_of_lt_of_le f62.lt (Nat.le_of_eq g57.symm))
    have f63 := (V45.keep K50 (ninS (Ne.symm ne_b29_b35) nin0))
    have ne_b35_b57 : b35 ≠ b57 := Nat.ne_of_lt (Nat.lt_of_lt_of_le f63.lt (Nat.le_of_eq g57.symm))
    have f64 := (f55.keep K50 (ninS ne_b4_b29 nin0))
    have ne_b4_b57 : b4 ≠ b57 := Nat.ne_of_lt (Nat.lt_of_lt_of_le f64.lt (Nat.le_of_eq g57.symm))
    have ne_b50_b57 : b50 ≠ b57 := Nat.ne_of_lt (Nat.lt_of_lt_of_le V50.lt (Nat.le_of_eq g57.symm))
    have f65 := (f56.keep K50 (ninS ne_b8_b29 nin0))
    have ne_b8_b57 : b8 ≠ b57 := Nat.ne_of_lt (Nat.lt_of_lt_of_le f65.lt (Nat.le_of_eq g57.symm))
    have ge_b57 : n0 ≤ b57 := Nat.le_trans Zk50 (Nat.le_of_eq g57.symm)
    have sz_b57 : h0.size ≤ b57 := Nat.le_trans Kk50.1 (Nat.le_of_eq g57.symm)
    have Z57 : n0 ≤ h57.size := Nat.le_trans Zk50 E57.1
    have K57 : Keep h0 h57 [] := Kk50.ext E57
    have V57 : Arv Z h57 b57 k57 (.object "java/lang/String") ((1 : Int32) + (0 : Int32)) [.null] .null := (Arv.new A57 (by decide)).pad (pad_rep [] .null 1)
    obtain ⟨cl66, Ar66, qk66, Sz66, Ng66, Hs66, Gs66⟩ := id V57
    have hin66 : ¬ ((0 : Int32) < 0 ∨ cl66.slots.size ≤ ((0 : Int32)).toNatClampNeg) := inb_of Sz66 ⟨by decide, by decide⟩
    have f67 := (f62.ext E57)
    obtain ⟨T68, h68, X68, e68, W68, st68⟩ := stR X57 hx hZ e57 Ar66 (j := (0 : Int32)) hin66 rfl (Sto.ofV Ar66 qk66 O57 (Ins.self f67)) (g := (mkF m 150 #[iv p0, iv p1, iv p2, iv p3, iv (((1 : Int32) + (0 : Int32))), iv (0 : Int32), iv (1 : Int32), rv b3, rv b11, rv b29, rv b57, .unset, .unset, .unset, .unset] [(.ref b3), (.int (0 : Int32)), (.ref b57)])) rfl rfl (hb hby at_150)
    have N68 := Fr.snoc X68 N50 ge_b57
    have Z68 : n0 ≤ h68.size := Nat.le_trans Z57 (Nat.le_of_eq W68.size.symm)
    have K68 : Keep h0 h68 [] := K57.wr W68 (Or.inr sz_b57)
    have V68 : Arv Z h68 b57 k57 (.object "java/lang/String") ((1 : Int32) + (0 : Int32)) [(.ref b3)] .null := Arv.set Ar66 qk66 Sz66 Ng66 Hs66 Gs66 rfl W68 0 rfl (Nat.le_of_ble_eq_true rfl)
    obtain ⟨T69, h69, X69, e69, E69, A69, D69, -, st69⟩ := newO X68 hx hZ hown (hw _ (List.mem_of_getElem? (i := 32) rfl)) (hw _ (List.mem_of_getElem? (i := 33) rfl)) (hw _ (List.mem_of_getElem? (i := 34) rfl)) e68 (g := (mkF m 175 #[iv p0, iv p1, iv p2, iv p3, iv (((1 : Int32) + (0 : Int32))), iv (0 : Int32), iv (1 : Int32), rv b3, rv b11, rv b29, rv b57, .unset, .unset, .unset, .unset] [])) rfl (hb hby at_175) (by decide) (by decide)
    obtain ⟨b69, g69⟩ : ∃ z, z = h68.size := ⟨_, rfl⟩
    rw [← g69] at A69 D69 st69
    have f70 := ((f58.ext E57).wr W68)
    have ne_b11_b69 : b11 ≠ b69 := Nat.ne_of_lt (Nat.lt_of_lt_of_le f70.lt (Nat.le_of_eq g69.symm))
    have f71 := ((f59.ext E57).other W68 ne_b13_b57)
    have ne_b13_b69 : b13 ≠ b69 := Nat.ne_of_lt (Nat.lt_of_lt_of_le f71.lt (Nat.le_of_eq g69.symm))
    have f72 := ((f60.ext E57).other W68 ne_b25_b57)
    have ne_b25_b69 : b25 ≠ b69 := Nat.ne_of_lt (Nat.lt_of_lt_of_le f72.lt (Nat.le_of_eq g69.symm))
    have f73 := ((f61.ext E57).wr W68)
    have ne_b29_b69 : b29 ≠ b69 := Nat.ne_of_lt (Nat.lt_of_lt_of_le f73.lt (Nat.le_of_eq g69.symm))
    have f74 := (f67.wr W68)
    have ne_b3_b69 : b3 ≠ b69 := Nat.ne_of_lt (Nat.lt_of_lt_of_le f74.lt (Nat.le_of_eq g69.symm))
    have f75 := ((f63.ext E57).other W68 ne_b35_b57)
    have ne_b35_b69 : b35 ≠ b69 := Nat.ne_of_lt (Nat.lt_of_lt_of_le f75.lt (Nat.le_of_eq g69.symm))
    have f76 := ((f64.ext E57).other W68 ne_b4_b57)
    have ne_b4_b69 : b4 ≠ b69 := Nat.ne_of_lt (Nat.lt_of_lt_of_le f76.lt (Nat.le_of_eq g69.symm))
    have f77 := ((V50.ext E57).other W68 ne_b50_b57)
    have ne_b50_b69 : b50 ≠ b69 := Nat.ne_of_lt (Nat.lt_of_lt_of_le f77.lt (Nat.le_of_eq g69.symm))
    have ne_b57_b69 : b57 ≠ b69 := Nat.ne_of_lt (Nat.lt_of_lt_of_le V68.lt (Nat.le_of_eq g69.symm))
    have f78 := ((f65.ext E57).other W68 ne_b8_b57)
    have ne_b8_b69 : b8 ≠ b69 := Nat.ne_of_lt (Nat.lt_of_lt_of_le f78.lt (Nat.le_of_eq g69.symm))
    have ge_b69 : n0 ≤ b69 := Nat.le_trans Z68 (Nat.le_of_eq g69.symm)
    have sz_b69 : h0.size ≤ b69 := Nat.le_trans K68.1 (Nat.le_of_eq g69.symm)
    have Z69 : n0 ≤ h69.size := Nat.le_trans Z68 E69.1
    have K69 : Keep h0 h69 [] := K68.ext E69
    have F69_arguments : Fld Z h69 b69 "com/example/steady_courier/steadycourier/OptionReader" "arguments" "[Ljava/lang/String;" .null := D69 (Or.inr (hw _ (List.mem_of_getElem? (i := 40) rfl))) (ty := (.array (.object "java/lang/String"))) (by decide)
    have F69_next : Fld Z h69 b69 "com/example/steady_courier/steadycourier/OptionReader" "next" "I" (.int (0 : Int32)) := D69 (Or.inl (hw _ (List.mem_of_getElem? (i := 47) rfl))) (ty := .int) (by decide)
    obtain ⟨_, T79, Lc79, X79, hQ79, st79⟩ := own_special (W := 1) (y := mN5) X69 hx hZ rfl hown (hw _ (List.mem_of_getElem? (i := 35) rfl)) (hw _ (List.mem_of_getElem? (i := 36) rfl)) (hw _ (List.mem_of_getElem? (i := 37) rfl)) (hw _ (List.mem_of_getElem? (i := 34) rfl)) (by decide) (rmInit l Z av0 hw [] b69 b57 h69 n0 Z69 A69 F69_arguments F69_next ge_b69) (by decide) (by decide) (g := (mkF m 181 #[iv p0, iv p1, iv p2, iv p3, iv (((1 : Int32) + (0 : Int32))), iv (0 : Int32), iv (1 : Int32), rv b3, rv b11, rv b29, rv b57, .unset, .unset, .unset, .unset] [(.ref b57), (.ref b69), (.ref b69)])) rfl (by rw [hml]; rfl) (a := b69) (argsL := [(.ref b57)]) (rest := [(.ref b69)]) (lenOf pd__Ljava_lang_String_V rfl) rfl (by show 2 * 0 + _ ≤ _; exact Nat.le_of_eq rfl) (hb hby at_181) rfl e69 (by decide : 12 + 0 ≤ _) (by decide : 27 + 0 ≤ _)
    obtain ⟨rfl, N79q, K79, FA79, FN79⟩ := hQ79
    have N79 := Fr.app N68 N79q
    have e79 : T79.heap = T79.heap := rfl
    have Zk79 : n0 ≤ T79.heap.size := Nat.le_trans Z69 K79.1
    have Kk79 : Keep h0 T79.heap [] := K69.trans K79 (allS (Or.inr sz_b69) all0)
    have f80 := ((V68.ext E69).keep K79 (ninS ne_b57_b69 nin0))
    have f82 := (A69.keep K79)
    obtain ⟨_, T81, Lc81, X81, hQ81, st81⟩ := own_virtual (W := 0) (y := mN6) (z := mN6) X79 hx hZ hown (hw _ (List.mem_of_getElem? (i := 41) rfl)) (hw _ (List.mem_of_getElem? (i := 42) rfl)) (notFace_of_selects (args := #[]) (mvT hZ (hw _ (List.mem_of_getElem? (i := 44) rfl)))) (hw _ (List.mem_of_getElem? (i := 44) rfl)) (hw _ (List.mem_of_getElem? (i := 43) rfl)) (hw _ (List.mem_of_getElem? (i := 45) rfl)) (hw _ (List.mem_of_getElem? (i := 34) rfl)) (by decide) (rmHas l Z av0 hw [] b69 b57 k57 ((1 : Int32) + (0 : Int32)) [(.ref b3)] (0 : Int32) T79.heap n0 Zk79 FA79 FN79 f80) (by decide) (by decide) f82 (g := (mkF m 188 #[iv p0, iv p1, iv p2, iv p3, iv (((1 : Int32) + (0 : Int32))), iv (0 : Int32), iv (1 : Int32), rv b3, rv b11, rv b29, rv b57, rv b69, .unset, .unset, .unset] [(.ref b69)])) rfl (by rw [hml]; rfl) (argsL := []) (rest := []) (lenOf pd__Z rfl) rfl (by show 2 * 0 + _ ≤ _; exact Nat.le_of_eq rfl) (hb hby at_188) rfl e79 (by decide : 12 + 0 ≤ _) (by decide : 27 + 0 ≤ _)
    obtain ⟨rfl, N81q, hh81⟩ := hQ81
    have N81 := Fr.app N79 N81q
    have e81 : T81.heap = T79.heap := hh81
    obtain ⟨_, T83, Lc83, X83, hQ83, st83⟩ := own_virtual (W := 0) (y := mN7) (z := mN7) X81 hx hZ hown (hw _ (List.mem_of_getElem? (i := 48) rfl)) (hw _ (List.mem_of_getElem? (i := 49) rfl)) (notFace_of_selects (args := #[]) (mvT hZ (hw _ (List.mem_of_getElem? (i := 51) rfl)))) (hw _ (List.mem_of_getElem? (i := 51) rfl)) (hw _ (List.mem_of_getElem? (i := 50) rfl)) (hw _ (List.mem_of_getElem? (i := 52) rfl)) (hw _ (List.mem_of_getElem? (i := 34) rfl)) (by decide) (rmOpt l Z av0 hw [] b69 b57 k57 ((1 : Int32) + (0 : Int32)) [(.ref b3)] (0 : Int32) b3 T79.heap n0 Zk79 FA79 FN79 f80 f82 ge_b69 (Ne.symm ne_b57_b69) (by decide) rfl) (by decide) (by decide) f82 (g := (mkF m 198 #[iv p0, iv p1, iv p2, iv p3, iv (((1 : Int32) + (0 : Int32))), iv (0 : Int32), iv (1 : Int32), rv b3, rv b11, rv b29, rv b57, rv b69, .unset, .unset, .unset] [(.ref b69)])) rfl (by rw [hml]; rfl) (argsL := []) (rest := []) (lenOf pd__Ljava_lang_String_ rfl) rfl (by show 2 * 0 + _ ≤ _; exact Nat.le_of_eq rfl) (hb hby at_198) rfl e81 (by decide : 12 + 0 ≤ _) (by decide : 27 + 0 ≤ _)
    obtain ⟨rfl, N83q, K83, FN83, FA83⟩ := hQ83
    have N83 := Fr.app N81 N83q
    have e83 : T83.heap = T83.heap := rfl
    have Zk83 : n0 ≤ T83.heap.size := Nat.le_trans Zk79 K83.1
    have Kk83 : Keep h0 T83.heap [] := Kk79.trans K83 (allS (Or.inr sz_b69) all0)
    have f85 := (((f74.ext E69).keep K79).keep K83)
    obtain ⟨_, T84, Lc84, X84, hQ84, st84⟩ := own_virtual (W := 0) (y := mN9) (z := mN9) X83 hx hZ hown (hw _ (List.mem_of_getElem? (i := 53) rfl)) (hw _ (List.mem_of_getElem? (i := 54) rfl)) (notFace_of_selects (args := #[]) (mvT hZ (hw _ (List.mem_of_getElem? (i := 56) rfl)))) (hw _ (List.mem_of_getElem? (i := 56) rfl)) (hw _ (List.mem_of_getElem? (i := 55) rfl)) (hw _ (List.mem_of_getElem? (i := 57) rfl)) (hw _ (List.mem_of_getElem? (i := 3) rfl)) (by decide) (rmSame l Z av0 hw [] b3 T83.heap n0 Zk83 ) (by decide) (by decide) f85 (g := (mkF m 207 #[iv p0, iv p1, iv p2, iv p3, iv (((1 : Int32) + (0 : Int32))), iv (0 : Int32), iv (1 : Int32), rv b3, rv b11, rv b29, rv b57, rv b69, rv b3, .unset, .unset] [(.ref b3), (.ref b3)])) rfl (by rw [hml]; rfl) (argsL := [(.ref b3)]) (rest := []) (lenOf pd__Ljava_lang_Object_Z rfl) rfl (by show 2 * 0 + _ ≤ _; exact Nat.le_of_eq rfl) (hb hby at_207) rfl e83 (by decide : 12 + 0 ≤ _) (by decide : 27 + 0 ≤ _)
    obtain ⟨rfl, N84q, hh84⟩ := hQ84
    have N84 := Fr.app N83 N84q
    have e84 : T84.heap = T83.heap := hh84
    have f86 := (f80.keep K83 (ninS ne_b57_b69 nin0))
    have f88 := (f82.keep K83)
    obtain ⟨_, T87, Lc87, X87, hQ87, st87⟩ := own_virtual (W := 0) (y := mN6) (z := mN6) X84 hx hZ hown (hw _ (List.mem_of_getElem? (i := 41) rfl)) (hw _ (List.mem_of_getElem? (i := 42) rfl)) (notFace_of_selects (args := #[]) (mvT hZ (hw _ (List.mem_of_getElem? (i := 44) rfl)))) (hw _ (List.mem_of_getElem? (i := 44) rfl)) (hw _ (List.mem_of_getElem? (i := 43) rfl)) (hw _ (List.mem_of_getElem? (i := 45) rfl)) (hw _ (List.mem_of_getElem? (i := 34) rfl)) (by decide) (rmHas l Z av0 hw [] b69 b57 k57 ((1 : Int32) + (0 : Int32)) [(.ref b3)] ((0 : Int32) + (1 : Int32)) T83.heap n0 Zk83 FA83 FN83 f86) (by decide) (by decide) f88 (g := (mkF m 217 #[iv p0, iv p1, iv p2, iv p3, iv (((1 : Int32) + (0 : Int32))), iv (0 : Int32), iv (1 : Int32), rv b3, rv b11, rv b29, rv b57, rv b69, rv b3, .unset, .unset] [(.ref b69)])) rfl (by rw [hml]; rfl) (argsL := []) (rest := []) (lenOf pd__Z rfl) rfl (by show 2 * 0 + _ ≤ _; exact Nat.le_of_eq rfl) (hb hby at_217) rfl e84 (by decide : 12 + 0 ≤ _) (by decide : 27 + 0 ≤ _)
    obtain ⟨rfl, N87q, hh87⟩ := hQ87
    have N87 := Fr.app N84 N87q
    have e87 : T87.heap = T83.heap := hh87
    have S89 : ∀ t, Steps p.tables e below (T87.setTop (mkF m 243 #[iv p0, iv p1, iv p2, iv p3, iv (((1 : Int32) + (0 : Int32))), iv (0 : Int32), iv (1 : Int32), rv b3, rv b11, rv b29, rv b57, rv b69, rv b3, .unset, .unset] [(.int (1 : Int32))])) t → Steps p.tables e below (s₁.setTop (mkF m 0 #[iv p0, iv p1, iv p2, iv p3, .unset, .unset, .unset, .unset, .unset, .unset, .unset, .unset, .unset, .unset, .unset] [])) t := fun t k => S9 t (by
      show Steps p.tables e below (T4.setTop (mkF m 54 #[iv p0, iv p1, iv p2, iv p3, iv (((1 : Int32) + (0 : Int32))), iv (0 : Int32), iv (1 : Int32), .unset, .unset, .unset, .unset, .unset, .unset, .unset, .unset] [(.ref b4), (.ref b3), (.ref b3)])) _
      refine st8 _ ?_
      refine XS.goto X8.here hx rfl (pc0 := 57) (pc' := 84) rfl (hb hby at_57) (by decide) (by decide) ?_
      refine XS.astore X8.here hx rfl (hb hby at_84) rfl rfl (l' := #[iv p0, iv p1, iv p2, iv p3, iv (((1 : Int32) + (0 : Int32))), iv (0 : Int32), iv (1 : Int32), rv b3, .unset, .unset, .unset, .unset, .unset, .unset, .unset]) rfl ?_
      show Steps p.tables e below (T8.setTop (mkF m 86 #[iv p0, iv p1, iv p2, iv p3, iv (((1 : Int32) + (0 : Int32))), iv (0 : Int32), iv (1 : Int32), rv b3, .unset, .unset, .unset, .unset, .unset, .unset, .unset] [])) _
      refine st11 _ ?_
      refine XS.dup X11.here hx rfl (hb hby at_89) rfl rfl ?_
      refine XT.iconstV X11.here hx rfl (2 : Int32) (hb hby at_90) (by decide) ?_
      refine st13 _ ?_
      refine XS.dup X13.here hx rfl (hb hby at_93) rfl rfl ?_
      refine XT.iconstV X13.here hx rfl (0 : Int32) (hb hby at_94) (by decide) ?_
      show Steps p.tables e below (T13.setTop (mkF m 95 #[iv p0, iv p1, iv p2, iv p3, iv (((1 : Int32) + (0 : Int32))), iv (0 : Int32), iv (1 : Int32), rv b3, .unset, .unset, .unset, .unset, .unset, .unset, .unset] [(.int (0 : Int32)), (.ref b13), (.ref b13), (.ref b11), (.ref b11)])) _
      refine XS.iloadN X13.here hx rfl (hb hby at_95) rfl ?_
      refine XT.sipushV X13.here hx rfl (255 : Int32) (hb hby at_96) (by decide) ?_
      refine XS.iand X13.here hx rfl (hb hby at_99) rfl ?_
      refine XT.i2c X13.here hx rfl (hb hby at_100) rfl ?_
      refine st18 _ ?_
      refine XS.dup X18.here hx rfl (hb hby at_102) rfl rfl ?_
      show Steps p.tables e below (T18.setTop (mkF m 103 #[iv p0, iv p1, iv p2, iv p3, iv (((1 : Int32) + (0 : Int32))), iv (0 : Int32), iv (1 : Int32), rv b3, .unset, .unset, .unset, .unset, .unset, .unset, .unset] [(.ref b13), (.ref b13), (.ref b11), (.ref b11)])) _
      refine XT.iconstV X18.here hx rfl (1 : Int32) (hb hby at_103) (by decide) ?_
      refine XT.bipushV X18.here hx rfl (98 : Int32) (hb hby at_104) (by decide) ?_
      refine st20 _ ?_
      refine st25 _ ?_
      refine XS.astore X25.here hx rfl (hb hby at_110) rfl rfl (l' := #[iv p0, iv p1, iv p2, iv p3, iv (((1 : Int32) + (0 : Int32))), iv (0 : Int32), iv (1 : Int32), rv b3, rv b11, .unset, .unset, .unset, .unset, .unset, .unset]) rfl ?_
      refine st29 _ ?_
      show Steps p.tables e below (T29.setTop (mkF m 115 #[iv p0, iv p1, iv p2, iv p3, iv (((1 : Int32) + (0 : Int32))), iv (0 : Int32), iv (1 : Int32), rv b3, rv b11, .unset, .unset, .unset, .unset, .unset, .unset] [(.ref b29)])) _
      refine XS.dup X29.here hx rfl (hb hby at_115) rfl rfl ?_
      refine XT.iconstV X29.here hx rfl (2 : Int32) (hb hby at_116) (by decide) ?_
      refine st35 _ ?_
      refine XS.dup X35.here hx rfl (hb hby at_119) rfl rfl ?_
      refine XT.iconstV X35.here hx rfl (0 : Int32) (hb hby at_120) (by decide) ?_
      refine XS.iloadN X35.here hx rfl (hb hby at_121) rfl ?_
      show Steps p.tables e below (T35.setTop (mkF m 122 #[iv p0, iv p1, iv p2, iv p3, iv (((1 : Int32) + (0 : Int32))), iv (0 : Int32), iv (1 : Int32), rv b3, rv b11, .unset, .unset, .unset, .unset, .unset, .unset] [(.int p2), (.int (0 : Int32)), (.ref b35), (.ref b35), (.ref b29), (.ref b29)])) _
      refine XT.sipushV X35.here hx rfl (255 : Int32) (hb hby at_122) (by decide) ?_
      refine XS.iand X35.here hx rfl (hb hby at_125) rfl ?_
      refine XT.i2c X35.here hx rfl (hb hby at_126) rfl ?_
      refine st43 _ ?_
      refine XS.dup X43.here hx rfl (hb hby at_128) rfl rfl ?_
      refine XT.iconstV X43.here hx rfl (1 : Int32) (hb hby at_129) (by decide) ?_
      show Steps p.tables e below (T43.setTop (mkF m 130 #[iv p0, iv p1, iv p2, iv p3, iv (((1 : Int32) + (0 : Int32))), iv (0 : Int32), iv (1 : Int32), rv b3, rv b11, .unset, .unset, .unset, .unset, .unset, .unset] [(.int (1 : Int32)), (.ref b35), (.ref b35), (.ref b29), (.ref b29)])) _
      refine XT.bipushV X43.here hx rfl (99 : Int32) (hb hby at_130) (by decide) ?_
      refine st45 _ ?_
      refine st50 _ ?_
      refine XS.astore X50.here hx rfl (hb hby at_136) rfl rfl (l' := #[iv p0, iv p1, iv p2, iv p3, iv (((1 : Int32) + (0 : Int32))), iv (0 : Int32), iv (1 : Int32), rv b3, rv b11, rv b29, .unset, .unset, .unset, .unset, .unset]) rfl ?_
      refine XS.iload X50.here hx rfl (hb hby at_138) rfl ?_
      refine st57 _ ?_
      show Steps p.tables e below (T57.setTop (mkF m 143 #[iv p0, iv p1, iv p2, iv p3, iv (((1 : Int32) + (0 : Int32))), iv (0 : Int32), iv (1 : Int32), rv b3, rv b11, rv b29, .unset, .unset, .unset, .unset, .unset] [(.ref b57)])) _
      refine XS.astore X57.here hx rfl (hb hby at_143) rfl rfl (l' := #[iv p0, iv p1, iv p2, iv p3, iv (((1 : Int32) + (0 : Int32))), iv (0 : Int32), iv (1 : Int32), rv b3, rv b11, rv b29, rv b57, .unset, .unset, .unset, .unset]) rfl ?_
      refine XS.aload X57.here hx rfl (hb hby at_145) rfl rfl ?_
      refine XT.iconstV X57.here hx rfl (0 : Int32) (hb hby at_147) (by decide) ?_
      refine XS.aload X57.here hx rfl (hb hby at_148) rfl rfl ?_
      refine st68 _ ?_
      refine XS.iload X68.here hx rfl (hb hby at_151) rfl ?_
      show Steps p.tables e below (T68.setTop (mkF m 153 #[iv p0, iv p1, iv p2, iv p3, iv (((1 : Int32) + (0 : Int32))), iv (0 : Int32), iv (1 : Int32), rv b3, rv b11, rv b29, rv b57, .unset, .unset, .unset, .unset] [(.int ((1 : Int32) + (0 : Int32)))])) _
      refine XT.iconstV X68.here hx rfl (1 : Int32) (hb hby at_153) (by decide) ?_
      refine XS.icmpYes X68.here hx rfl (pc0 := 154) (pc' := 163) rfl (hb hby at_154) rfl (XT.ii_le_t (by decide)) (by decide) (by decide) ?_
      refine XS.iload X68.here hx rfl (hb hby at_163) rfl ?_
      refine XT.iconstV X68.here hx rfl (2 : Int32) (hb hby at_165) (by decide) ?_
      refine XS.icmpYes X68.here hx rfl (pc0 := 166) (pc' := 175) rfl (hb hby at_166) rfl (XT.ii_le_t (by decide)) (by decide) (by decide) ?_
      refine st69 _ ?_
      show Steps p.tables e below (T69.setTop (mkF m 178 #[iv p0, iv p1, iv p2, iv p3, iv (((1 : Int32) + (0 : Int32))), iv (0 : Int32), iv (1 : Int32), rv b3, rv b11, rv b29, rv b57, .unset, .unset, .unset, .unset] [(.ref b69)])) _
      refine XS.dup X69.here hx rfl (hb hby at_178) rfl rfl ?_
      refine XS.aload X69.here hx rfl (hb hby at_179) rfl rfl ?_
      refine st79 _ ?_
      refine XS.astore X79.here hx rfl (hb hby at_184) rfl rfl (l' := #[iv p0, iv p1, iv p2, iv p3, iv (((1 : Int32) + (0 : Int32))), iv (0 : Int32), iv (1 : Int32), rv b3, rv b11, rv b29, rv b57, rv b69, .unset, .unset, .unset]) rfl ?_
      refine XS.aload X79.here hx rfl (hb hby at_186) rfl rfl ?_
      refine st81 _ ?_
      show Steps p.tables e below (T81.setTop (mkF m 191 #[iv p0, iv p1, iv p2, iv p3, iv (((1 : Int32) + (0 : Int32))), iv (0 : Int32), iv (1 : Int32), rv b3, rv b11, rv b29, rv b57, rv b69, .unset, .unset, .unset] [(.int (own_lt (0 : Int32) ((1 : Int32) + (0 : Int32))))])) _
      refine XS.ifYes X81.here hx rfl (pc0 := 191) (pc' := 196) rfl (hb hby at_191) rfl (XT.i0_ne_t (by decide)) (by decide) (by decide) ?_
      refine XS.aload X81.here hx rfl (hb hby at_196) rfl rfl ?_
      refine st83 _ ?_
      refine XS.astore X83.here hx rfl (hb hby at_201) rfl rfl (l' := #[iv p0, iv p1, iv p2, iv p3, iv (((1 : Int32) + (0 : Int32))), iv (0 : Int32), iv (1 : Int32), rv b3, rv b11, rv b29, rv b57, rv b69, rv b3, .unset, .unset]) rfl ?_
      refine XS.aload X83.here hx rfl (hb hby at_203) rfl rfl ?_
      refine XS.aload X83.here hx rfl (hb hby at_205) rfl rfl ?_
      show Steps p.tables e below (T83.setTop (mkF m 207 #[iv p0, iv p1, iv p2, iv p3, iv (((1 : Int32) + (0 : Int32))), iv (0 : Int32), iv (1 : Int32), rv b3, rv b11, rv b29, rv b57, rv b69, rv b3, .unset, .unset] [(.ref b3), (.ref b3)])) _
      refine st84 _ ?_
      refine XS.ifYes X84.here hx rfl (pc0 := 210) (pc' := 215) rfl (hb hby at_210) rfl (XT.i0_ne_t (by decide)) (by decide) (by decide) ?_
      refine XS.aload X84.here hx rfl (hb hby at_215) rfl rfl ?_
      refine st87 _ ?_
      refine XS.iload X87.here hx rfl (hb hby at_220) rfl ?_
      refine XT.iconstV X87.here hx rfl (1 : Int32) (hb hby at_222) (by decide) ?_
      show Steps p.tables e below (T87.setTop (mkF m 223 #[iv p0, iv p1, iv p2, iv p3, iv (((1 : Int32) + (0 : Int32))), iv (0 : Int32), iv (1 : Int32), rv b3, rv b11, rv b29, rv b57, rv b69, rv b3, .unset, .unset] [(.int (1 : Int32)), (.int ((1 : Int32) + (0 : Int32))), (.int (own_lt ((0 : Int32) + (1 : Int32)) ((1 : Int32) + (0 : Int32))))])) _
      refine XS.icmpYes X87.here hx rfl (pc0 := 223) (pc' := 230) rfl (hb hby at_223) rfl (XT.ii_le_t (by decide)) (by decide) (by decide) ?_
      refine XT.iconstV X87.here hx rfl (0 : Int32) (hb hby at_230) (by decide) ?_
      refine XS.icmpYes X87.here hx rfl (pc0 := 231) (pc' := 236) rfl (hb hby at_231) rfl (XT.ii_eq_t (by decide)) (by decide) (by decide) ?_
      refine XS.iload X87.here hx rfl (hb hby at_236) rfl ?_
      refine XT.iconstV X87.here hx rfl (1 : Int32) (hb hby at_238) (by decide) ?_
      refine XS.icmpNo X87.here hx rfl (hb hby at_239) rfl (XT.ii_ne_f (by decide)) ?_
      show Steps p.tables e below (T87.setTop (mkF m 242 #[iv p0, iv p1, iv p2, iv p3, iv (((1 : Int32) + (0 : Int32))), iv (0 : Int32), iv (1 : Int32), rv b3, rv b11, rv b29, rv b57, rv b69, rv b3, .unset, .unset] [])) _
      refine XT.iconstV X87.here hx rfl (1 : Int32) (hb hby at_242) (by decide) ?_
      exact k)
    obtain ⟨fs, hr, hrun, hended, hEnd⟩ := X87.leaveW hS8 (by rw [e87]; exact (Nat.le_trans (Nat.le_trans (Nat.le_trans (Nat.le_trans (Nat.le_trans (Nat.le_trans (Nat.le_trans (Nat.le_trans (Nat.le_trans (Nat.le_trans (Nat.le_trans (Nat.le_trans (Nat.le_trans (Nat.le_trans (Nat.le_trans (Nat.le_refl _) E11.1) E13.1) (Nat.le_of_eq W18.size.symm)) (Nat.le_of_eq W20.size.symm)) K25.1) E29.1) E35.1) (Nat.le_of_eq W43.size.symm)) (Nat.le_of_eq W45.size.symm)) K50.1) E57.1) (Nat.le_of_eq W68.size.symm)) E69.1) K79.1) K83.1)) (v := some (.int (1 : Int32))) (fun h => by rw [Bd.returns] at h; cases h)
    refine ⟨_, _, pre0 _ (S89 _ ?_), hrun, hended, _, _, rfl, ?_, hEnd.1, hEnd.2.1, hEnd.2.2.1, hEnd.2.2.2.mono (by decide) (by decide)⟩
    · exact retN X87 hx (t := .boolean) Bd.returns (by simp) (hb hby at_243) hr
    · show Qrm0 Z p0 p1 p2 p3 wC h0 n0 _ T87.heap _
      rw [e87]
      exact ⟨rfl, N87⟩
  · obtain ⟨T90, h90, X90, e90, E90, A90, D90, -, st90⟩ := newO X0 hx hZ hown (hw _ (List.mem_of_getElem? (i := 1) rfl)) (hw _ (List.mem_of_getElem? (i := 2) rfl)) (hw _ (List.mem_of_getElem? (i := 3) rfl)) e0 (g := (mkF m 47 #[iv p0, iv p1, iv p2, iv p3, iv (((1 : Int32) + (0 : Int32))), iv (1 : Int32), iv (1 : Int32), .unset, .unset, .unset, .unset, .unset, .unset, .unset, .unset] [])) rfl (hb hby at_47) (by decide) (by decide)
    obtain ⟨b90, g90⟩ : ∃ z, z = h0.size := ⟨_, rfl⟩
    rw [← g90] at A90 D90 st90
    have ge_b90 : n0 ≤ b90 := Nat.le_trans Z0 (Nat.le_of_eq g90.symm)
    have sz_b90 : h0.size ≤ b90 := Nat.le_of_eq g90.symm
    have Z90 : n0 ≤ h90.size := Nat.le_trans Z0 E90.1
    have K90 : Keep h0 h90 [] := (Keep.refl h0 []).ext E90
    have F90_coder : Fld Z h90 b90 "java/lang/String" "coder" "B" (.int (0 : Int32)) := D90 (Or.inr (hw _ (List.mem_of_getElem? (i := 28) rfl))) (ty := .byte) (by decide)
    have F90_value : Fld Z h90 b90 "java/lang/String" "value" "[B" .null := D90 (Or.inr (hw _ (List.mem_of_getElem? (i := 30) rfl))) (ty := (.array .byte)) (by decide)
    obtain ⟨T91, h91, k91, X91, e91, E91, A91, st91⟩ := newP X90 hx hZ (hw _ (List.mem_of_getElem? (i := 4) rfl)) e90 (g := (mkF m 52 #[iv p0, iv p1, iv p2, iv p3, iv (((1 : Int32) + (0 : Int32))), iv (1 : Int32), iv (1 : Int32), .unset, .unset, .unset, .unset, .unset, .unset, .unset, .unset] [(.int (0 : Int32)), (.ref b90), (.ref b90)])) rfl (hb hby at_52) rfl (by decide) (cap := 0) (by decide) (by decide) (by decide) (by decide)
    obtain ⟨b91, g91⟩ : ∃ z, z = h90.size := ⟨_, rfl⟩
    rw [← g91] at A91 st91
    have ne_b90_b91 : b90 ≠ b91 := Nat.ne_of_lt (Nat.lt_of_lt_of_le A90.lt (Nat.le_of_eq g91.symm))
    have ge_b91 : n0 ≤ b91 := Nat.le_trans Z90 (Nat.le_of_eq g91.symm)
    have sz_b91 : h0.size ≤ b91 := Nat.le_trans K90.1 (Nat.le_of_eq g91.symm)
    have Z91 : n0 ≤ h91.size := Nat.le_trans Z90 E91.1
    have K91 : Keep h0 h91 [] := K90.ext E91
    have V91 : Arv Z h91 b91 k91 .char (0 : Int32) [] (.int (0 : Int32)) := Arv.new A91 (by decide)
    have f92 := (A90.ext E91)
    have f93 := (F90_value.ext E91)
    have f94 := (F90_coder.ext E91)
    have S96 : ∀ t, Steps p.tables e below (T91.setTop (mkF m 54 #[iv p0, iv p1, iv p2, iv p3, iv (((1 : Int32) + (0 : Int32))), iv (1 : Int32), iv (1 : Int32), .unset, .unset, .unset, .unset, .unset, .unset, .unset, .unset] [(.ref b91), (.ref b90), (.ref b90)])) t → Steps p.tables e below (s₁.setTop (mkF m 0 #[iv p0, iv p1, iv p2, iv p3, .unset, .unset, .unset, .unset, .unset, .unset, .unset, .unset, .unset, .unset, .unset] [])) t := fun t k => S1 t (by
      show Steps p.tables e below (s₁.setTop (mkF m 16 #[iv p0, iv p1, iv p2, iv p3, iv (((1 : Int32) + (0 : Int32))), .unset, .unset, .unset, .unset, .unset, .unset, .unset, .unset, .unset, .unset] [(.int ((XT.ushr p3 (8 : Int32)) &&& (1 : Int32)))])) _
      refine XS.ifNo X0.here hx rfl (hb hby at_16) rfl (XT.i0_eq_f hc16_2) ?_
      refine XT.iconstV X0.here hx rfl (1 : Int32) (hb hby at_19) (by decide) ?_
      refine XS.goto X0.here hx rfl (pc0 := 20) (pc' := 24) rfl (hb hby at_20) (by decide) (by decide) ?_
      refine XS.istore X0.here hx rfl (hb hby at_24) rfl (l' := #[iv p0, iv p1, iv p2, iv p3, iv (((1 : Int32) + (0 : Int32))), iv (1 : Int32), .unset, .unset, .unset, .unset, .unset, .unset, .unset, .unset, .unset]) rfl ?_
      show Steps p.tables e below (s₁.setTop (mkF m 26 #[iv p0, iv p1, iv p2, iv p3, iv (((1 : Int32) + (0 : Int32))), iv (1 : Int32), .unset, .unset, .unset, .unset, .unset, .unset, .unset, .unset, .unset] [])) _
      refine XS.iloadN X0.here hx rfl (hb hby at_26) rfl ?_
      refine XT.bipushV X0.here hx rfl (9 : Int32) (hb hby at_27) (by decide) ?_
      refine XT.iushr X0.here hx rfl (hb hby at_29) rfl ?_
      refine XT.iconstV X0.here hx rfl (1 : Int32) (hb hby at_30) (by decide) ?_
      refine XS.iand X0.here hx rfl (hb hby at_31) rfl ?_
      show Steps p.tables e below (s₁.setTop (mkF m 32 #[iv p0, iv p1, iv p2, iv p3, iv (((1 : Int32) + (0 : Int32))), iv (1 : Int32), .unset, .unset, .unset, .unset, .unset, .unset, .unset, .unset, .unset] [(.int ((XT.ushr p3 (9 : Int32)) &&& (1 : Int32)))])) _
      rw [he]
      show Steps p.tables e below (s₁.setTop (mkF m 32 #[iv p0, iv p1, iv p2, iv p3, iv (((1 : Int32) + (0 : Int32))), iv (1 : Int32), .unset, .unset, .unset, .unset, .unset, .unset, .unset, .unset, .unset] [(.int (1 : Int32))])) _
      refine XS.ifNo X0.here hx rfl (hb hby at_32) rfl (XT.i0_eq_f (by decide)) ?_
      refine XT.iconstV X0.here hx rfl (1 : Int32) (hb hby at_35) (by decide) ?_
      refine XS.goto X0.here hx rfl (pc0 := 36) (pc' := 40) rfl (hb hby at_36) (by decide) (by decide) ?_
      refine XS.istore X0.here hx rfl (hb hby at_40) rfl (l' := #[iv p0, iv p1, iv p2, iv p3, iv (((1 : Int32) + (0 : Int32))), iv (1 : Int32), iv (1 : Int32), .unset, .unset, .unset, .unset, .unset, .unset, .unset, .unset]) rfl ?_
      refine XS.iload X0.here hx rfl (hb hby at_42) rfl ?_
      refine XS.ifNo X0.here hx rfl (hb hby at_44) rfl (XT.i0_eq_f (by decide)) ?_
      show Steps p.tables e below (s₁.setTop (mkF m 47 #[iv p0, iv p1, iv p2, iv p3, iv (((1 : Int32) + (0 : Int32))), iv (1 : Int32), iv (1 : Int32), .unset, .unset, .unset, .unset, .unset, .unset, .unset, .unset] [])) _
      refine st90 _ ?_
      refine XS.dup X90.here hx rfl (hb hby at_50) rfl rfl ?_
      refine XT.iconstV X90.here hx rfl (0 : Int32) (hb hby at_51) (by decide) ?_
      refine st91 _ ?_
      exact k)
    obtain ⟨_, T95, Lc95, X95, hS95, hQ95, st95⟩ := own_specialI (W := 1) (y := mN4) X91 hx hZ rfl hown (hw _ (List.mem_of_getElem? (i := 5) rfl)) (hw _ (List.mem_of_getElem? (i := 6) rfl)) (hw _ (List.mem_of_getElem? (i := 7) rfl)) (hw _ (List.mem_of_getElem? (i := 3) rfl)) (by decide) (rmSi2_e l Z av0 hw [] b90 b91 k91 h91 n0 Z91 f92 f93 f94 ge_b90 V91 (fun b cl q => K91.2.1 b cl (hkp b cl q) nin0) hcH hcw) (by decide) (by decide) hI (g := (mkF m 54 #[iv p0, iv p1, iv p2, iv p3, iv (((1 : Int32) + (0 : Int32))), iv (1 : Int32), iv (1 : Int32), .unset, .unset, .unset, .unset, .unset, .unset, .unset, .unset] [(.ref b91), (.ref b90), (.ref b90)])) rfl (by rw [hml]; rfl) (a := b90) (argsL := [(.ref b91)]) (rest := [(.ref b90)]) (lenOf pd__C_V rfl) rfl (by show 2 * 0 + _ ≤ _; exact Nat.le_of_eq rfl) (hb hby at_54) rfl e91 (by decide : 2 + 2 ≤ _) (by decide : 4 + 4 ≤ _)
    have hZ := State.Warmed39.trans (t := s) hZ hS95.1
    have hown : (s.setVm T95.vm).vm.findClass "com/example/steady_courier/steadycourier/OptionReaderOptionPinLaw" = some m.cls := by rw [show (s.setVm T95.vm).vm = T95.vm from rfl, hS95.1.alike.findClass]; exact hown
    obtain ⟨rfl, N95q, K95, FC95, b95, kb95, FV95, V95⟩ := hQ95
    have N95 := Fr.app N0 N95q
    have e95 : T95.heap = T95.heap := rfl
    have Zk95 : n0 ≤ T95.heap.size := Nat.le_trans Z91 K95.1
    have Kk95 : Keep h0 T95.heap [] := K91.trans K95 (allS (Or.inr sz_b90) all0)
    have f97 := (f92.keep K95)
    have ne_b90_b95 : b90 ≠ b95 := f97.neArv V95 (hw _ (List.mem_of_getElem? (i := 2) rfl))
    obtain ⟨T98, h98, X98, e98, E98, A98, D98, -, st98⟩ := newO X95 hx hZ hown (hw _ (List.mem_of_getElem? (i := 1) rfl)) (hw _ (List.mem_of_getElem? (i := 2) rfl)) (hw _ (List.mem_of_getElem? (i := 3) rfl)) e95 (g := (mkF m 86 #[iv p0, iv p1, iv p2, iv p3, iv (((1 : Int32) + (0 : Int32))), iv (1 : Int32), iv (1 : Int32), rv b90, .unset, .unset, .unset, .unset, .unset, .unset, .unset] [])) rfl (hb hby at_86) (by decide) (by decide)
    obtain ⟨b98, g98⟩ : ∃ z, z = T95.heap.size := ⟨_, rfl⟩
    rw [← g98] at A98 D98 st98
    have ne_b90_b98 : b90 ≠ b98 := Nat.ne_of_lt (Nat.lt_of_lt_of_le f97.lt (Nat.le_of_eq g98.symm))
    have f99 := (V91.keep K95 (ninS (Ne.symm ne_b90_b91) nin0))
    have ne_b91_b98 : b91 ≠ b98 := Nat.ne_of_lt (Nat.lt_of_lt_of_le f99.lt (Nat.le_of_eq g98.symm))
    have ne_b95_b98 : b95 ≠ b98 := Nat.ne_of_lt (Nat.lt_of_lt_of_le V95.lt (Nat.le_of_eq g98.symm))
    have ge_b98 : n0 ≤ b98 := Nat.le_trans Zk95 (Nat.le_of_eq g98.symm)
    have sz_b98 : h0.size ≤ b98 := Nat.le_trans Kk95.1 (Nat.le_of_eq g98.symm)
    have Z98 : n0 ≤ h98.size := Nat.le_trans Zk95 E98.1
    have K98 : Keep h0 h98 [] := Kk95.ext E98
    have F98_coder : Fld Z h98 b98 "java/lang/String" "coder" "B" (.int (0 : Int32)) := D98 (Or.inr (hw _ (List.mem_of_getElem? (i := 28) rfl))) (ty := .byte) (by decide)
    have F98_value : Fld Z h98 b98 "java/lang/String" "value" "[B" .null := D98 (Or.inr (hw _ (List.mem_of_getElem? (i := 30) rfl))) (ty := (.array .byte)) (by decide)
    obtain ⟨T100, h100, k100, X100, e100, E100, A100, st100⟩ := newP X98 hx hZ (hw _ (List.mem_of_getElem? (i := 4) rfl)) e98 (g := (mkF m 91 #[iv p0, iv p1, iv p2, iv p3, iv (((1 : Int32) + (0 : Int32))), iv (1 : Int32), iv (1 : Int32), rv b90, .unset, .unset, .unset, .unset, .unset, .unset, .unset] [(.int (2 : Int32)), (.ref b98), (.ref b98)])) rfl (hb hby at_91) rfl (by decide) (cap := 2) (by decide) (by decide) (by decide) (by decide)
    obtain ⟨b100, g100⟩ : ∃ z, z = h98.size := ⟨_, rfl⟩
    rw [← g100] at A100 st100
    have f101 := (f97.ext E98)
    have ne_b90_b100 : b90 ≠ b100 := Nat.ne_of_lt (Nat.lt_of_lt_of_le f101.lt (Nat.le_of_eq g100.symm))
    have f102 := (f99.ext E98)
    have ne_b91_b100 : b91 ≠ b100 := Nat.ne_of_lt (Nat.lt_of_lt_of_le f102.lt (Nat.le_of_eq g100.symm))
    have f103 := (V95.ext E98)
    have ne_b95_b100 : b95 ≠ b100 := Nat.ne_of_lt (Nat.lt_of_lt_of_le f103.lt (Nat.le_of_eq g100.symm))
    have ne_b98_b100 : b98 ≠ b100 := Nat.ne_of_lt (Nat.lt_of_lt_of_le A98.lt (Nat.le_of_eq g100.symm))
    have ge_b100 : n0 ≤ b100 := Nat.le_trans Z98 (Nat.le_of_eq g100.symm)
    have sz_b100 : h0.size ≤ b100 := Nat.le_trans K98.1 (Nat.le_of_eq g100.symm)
    have Z100 : n0 ≤ h100.size := Nat.le_trans Z98 E100.1
    have K100 : Keep h0 h100 [] := K98.ext E100
    have V100 : Arv Z h100 b100 k100 .char (2 : Int32) [(.int (0 : Int32)), (.int (0 : Int32))] (.int (0 : Int32)) := (Arv.new A100 (by decide)).pad (pad_rep [] (.int (0 : Int32)) 2)
    obtain ⟨cl104, Ar104, qk104, Sz104, Ng104, Hs104, Gs104⟩ := id V100
    have hin104 : ¬ ((0 : Int32) < 0 ∨ cl104.slots.size ≤ ((0 : Int32)).toNatClampNeg) := inb_of Sz104 ⟨by decide, by decide⟩
    obtain ⟨T105, h105, X105, e105, W105, st105⟩ := stC X100 hx hZ e100 Ar104 (j := (0 : Int32)) hin104 (g := (mkF m 101 #[iv p0, iv p1, iv p2, iv p3, iv (((1 : Int32) + (0 : Int32))), iv (1 : Int32), iv (1 : Int32), rv b90, .unset, .unset, .unset, .unset, .unset, .unset, .unset] [(.int ((p1 &&& (255 : Int32))).toUInt32.toUInt16.toUInt32.toInt32), (.int (0 : Int32)), (.ref b100), (.ref b100), (.ref b98), (.ref b98)])) rfl rfl (hb hby at_101)
    have N105 := Fr.snoc X105 N95 ge_b100
    have Z105 : n0 ≤ h105.size := Nat.le_trans Z100 (Nat.le_of_eq W105.size.symm)
    have K105 : Keep h0 h105 [] := K100.wr W105 (Or.inr sz_b100)
    have V105 : Arv Z h105 b100 k100 .char (2 : Int32) [(.int (nar .char ((p1 &&& (255 : Int32))).toUInt32.toUInt16.toUInt32.toInt32)), (.int (0 : Int32))] (.int (0 : Int32)) := Arv.set Ar104 qk104 Sz104 Ng104 Hs104 Gs104 (fits_nar_char _) W105 0 rfl (Nat.le_of_ble_eq_true rfl)
    obtain ⟨cl106, Ar106, qk106, Sz106, Ng106, Hs106, Gs106⟩ := id V105
    have hin106 : ¬ ((1 : Int32) < 0 ∨ cl106.slots.size ≤ ((1 : Int32)).toNatClampNeg) := inb_of Sz106 ⟨by decide, by decide⟩
    obtain ⟨T107, h107, X107, e107, W107, st107⟩ := stC X105 hx hZ e105 Ar106 (j := (1 : Int32)) hin106 (g := (mkF m 106 #[iv p0, iv p1, iv p2, iv p3, iv (((1 : Int32) + (0 : Int32))), iv (1 : Int32), iv (1 : Int32), rv b90, .unset, .unset, .unset, .unset, .unset, .unset, .unset] [(.int (98 : Int32)), (.int (1 : Int32)), (.ref b100), (.ref b100), (.ref b98), (.ref b98)])) rfl rfl (hb hby at_106)
    have N107 := Fr.snoc X107 N105 ge_b100
    have Z107 : n0 ≤ h107.size := Nat.le_trans Z105 (Nat.le_of_eq W107.size.symm)
    have K107 : Keep h0 h107 [] := K105.wr W107 (Or.inr sz_b100)
    have V107 : Arv Z h107 b100 k100 .char (2 : Int32) [(.int (nar .char ((p1 &&& (255 : Int32))).toUInt32.toUInt16.toUInt32.toInt32)), (.int (nar .char (98 : Int32)))] (.int (0 : Int32)) := Arv.set Ar106 qk106 Sz106 Ng106 Hs106 Gs106 (fits_nar_char _) W107 1 rfl (Nat.le_of_ble_eq_true rfl)
    have f108 := (((A98.ext E100).wr W105).wr W107)
    have f109 := (((F98_value.ext E100).other W105 (Or.inl ne_b98_b100)).other W107 (Or.inl ne_b98_b100))
    have f110 := (((F98_coder.ext E100).other W105 (Or.inl ne_b98_b100)).other W107 (Or.inl ne_b98_b100))
    have f111 := (((((own_stak ((hS.ext E90).ext E91) K95 (allS (own_exns f92) all0)).ext E98).ext E100).wr W105).wr W107)
    obtain ⟨_, T112, Lc112, X112, hQ112, st112⟩ := own_special (W := 1) (y := mN4) X107 hx hZ rfl hown (hw _ (List.mem_of_getElem? (i := 5) rfl)) (hw _ (List.mem_of_getElem? (i := 6) rfl)) (hw _ (List.mem_of_getElem? (i := 7) rfl)) (hw _ (List.mem_of_getElem? (i := 3) rfl)) (by decide) (rmSi2_2 l Z av0 hw [] b98 b100 k100 wC (nar .char ((p1 &&& (255 : Int32))).toUInt32.toUInt16.toUInt32.toInt32) (nar .char (98 : Int32)) h107 n0 Z107 f108 f109 f110 ge_b98 V107 f111 hw0 (own_ch p1) (by decide)) (by decide) (by decide) (g := (mkF m 107 #[iv p0, iv p1, iv p2, iv p3, iv (((1 : Int32) + (0 : Int32))), iv (1 : Int32), iv (1 : Int32), rv b90, .unset, .unset, .unset, .unset, .unset, .unset, .unset] [(.ref b100), (.ref b98), (.ref b98)])) rfl (by rw [hml]; rfl) (a := b98) (argsL := [(.ref b100)]) (rest := [(.ref b98)]) (lenOf pd__C_V rfl) rfl (by show 2 * 0 + _ ≤ _; exact Nat.le_of_eq rfl) (hb hby at_107) rfl e107 (by decide : 6 + 1 ≤ _) (by decide : 14 + 2 ≤ _)
    obtain ⟨rfl, N112q, K112, FC112, b112, kb112, FV112, V112, gb112⟩ := hQ112
    have N112 := Fr.app N107 N112q
    have e112 : T112.heap = T112.heap := rfl
    have ne_b100_b112 : b100 ≠ b112 := Nat.ne_of_lt (Nat.lt_of_lt_of_le V107.lt gb112)
    have f113 := (((f101.ext E100).wr W105).wr W107)
    have ne_b90_b112 : b90 ≠ b112 := Nat.ne_of_lt (Nat.lt_of_lt_of_le f113.lt gb112)
    have f114 := (((f102.ext E100).other W105 ne_b91_b100).other W107 ne_b91_b100)
    have ne_b91_b112 : b91 ≠ b112 := Nat.ne_of_lt (Nat.lt_of_lt_of_le f114.lt gb112)
    have f115 := (((f103.ext E100).other W105 ne_b95_b100).other W107 ne_b95_b100)
    have ne_b95_b112 : b95 ≠ b112 := Nat.ne_of_lt (Nat.lt_of_lt_of_le f115.lt gb112)
    have ne_b98_b112 : b98 ≠ b112 := Nat.ne_of_lt (Nat.lt_of_lt_of_le f108.lt gb112)
    have ge_b112 : n0 ≤ b112 := Nat.le_trans Z107 gb112
    have sz_b112 : h0.size ≤ b112 := Nat.le_trans K107.1 gb112
    have Zk112 : n0 ≤ T112.heap.size := Nat.le_trans Z107 K112.1
    have Kk112 : Keep h0 T112.heap [] := K107.trans K112 (allS (Or.inr sz_b98) all0)
    obtain ⟨T116, h116, X116, e116, E116, A116, D116, -, st116⟩ := newO X112 hx hZ hown (hw _ (List.mem_of_getElem? (i := 1) rfl)) (hw _ (List.mem_of_getElem? (i := 2) rfl)) (hw _ (List.mem_of_getElem? (i := 3) rfl)) e112 (g := (mkF m 112 #[iv p0, iv p1, iv p2, iv p3, iv (((1 : Int32) + (0 : Int32))), iv (1 : Int32), iv (1 : Int32), rv b90, rv b98, .unset, .unset, .unset, .unset, .unset, .unset] [])) rfl (hb hby at_112) (by decide) (by decide)
    obtain ⟨b116, g116⟩ : ∃ z, z = T112.heap.size := ⟨_, rfl⟩
    rw [← g116] at A116 D116 st116
    have f117 := (V107.keep K112 (ninS (Ne.symm ne_b98_b100) nin0))
    have ne_b100_b116 : b100 ≠ b116 := Nat.ne_of_lt (Nat.lt_of_lt_of_le f117.lt (Nat.le_of_eq g116.symm))
    have ne_b112_b116 : b112 ≠ b116 := Nat.ne_of_lt (Nat.lt_of_lt_of_le V112.lt (Nat.le_of_eq g116.symm))
    have f118 := (f113.keep K112)
    have ne_b90_b116 : b90 ≠ b116 := Nat.ne_of_lt (Nat.lt_of_lt_of_le f118.lt (Nat.le_of_eq g116.symm))
    have f119 := (f114.keep K112 (ninS ne_b91_b98 nin0))
    have ne_b91_b116 : b91 ≠ b116 := Nat.ne_of_lt (Nat.lt_of_lt_of_le f119.lt (Nat.le_of_eq g116.symm))
    have f120 := (f115.keep K112 (ninS ne_b95_b98 nin0))
    have ne_b95_b116 : b95 ≠ b116 := Nat.ne_of_lt (Nat.lt_of_lt_of_le f120.lt (Nat.le_of_eq g116.symm))
    have f121 := (f108.keep K112)
    have ne_b98_b116 : b98 ≠ b116 := Nat.ne_of_lt (Nat.lt_of_lt_of_le f121.lt (Nat.le_of_eq g116.symm))
    have ge_b116 : n0 ≤ b116 := Nat.le_trans Zk112 (Nat.le_of_eq g116.symm)
    have sz_b116 : h0.size ≤ b116 := Nat.le_trans Kk112.1 (Nat.le_of_eq g116.symm)
    have Z116 : n0 ≤ h116.size := Nat.le_trans Zk112 E116.1
    have K116 : Keep h0 h116 [] := Kk112.ext E116
    have F116_coder : Fld Z h116 b116 "java/lang/String" "coder" "B" (.int (0 : Int32)) := D116 (Or.inr (hw _ (List.mem_of_getElem? (i := 28) rfl))) (ty := .byte) (by decide)
    have F116_value : Fld Z h116 b116 "java/lang/String" "value" "[B" .null := D116 (Or.inr (hw _ (List.mem_of_getElem? (i := 30) rfl))) (ty := (.array .byte)) (by decide)
    obtain ⟨T122, h122, k122, X122, e122, E122, A122, st122⟩ := newP X116 hx hZ (hw _ (List.mem_of_getElem? (i := 4) rfl)) e116 (g := (mkF m 117 #[iv p0, iv p1, iv p2, iv p3, iv (((1 : Int32) + (0 : Int32))), iv (1 : Int32), iv (1 : Int32), rv b90, rv b98, .unset, .unset, .unset, .unset, .unset, .unset] [(.int (2 : Int32)), (.ref b116), (.ref b116)])) rfl (hb hby at_117) rfl (by decide) (cap := 2) (by decide) (by decide) (by decide) (by decide)
    obtain ⟨b122, g122⟩ : ∃ z, z = h116.size := ⟨_, rfl⟩
    rw [← g122] at A122 st122
    have f123 := (f117.ext E116)
    have ne_b100_b122 : b100 ≠ b122 := Nat.ne_of_lt (Nat.lt_of_lt_of_le f123.lt (Nat.le_of_eq g122.symm))
    have f124 := (V112.ext E116)
    have ne_b112_b122 : b112 ≠ b122 := Nat.ne_of_lt (Nat.lt_of_lt_of_le f124.lt (Nat.le_of_eq g122.symm))
    have ne_b116_b122 : b116 ≠ b122 := Nat.ne_of_lt (Nat.lt_of_lt_of_le A116.lt (Nat.le_of_eq g122.symm))
    have f125 := (f118.ext E116)
    have ne_b90_b122 : b90 ≠ b122 := Nat.ne_of_lt (Nat.lt_of_lt_of_le f125.lt (Nat.le_of_eq g122.symm))
    have f126 := (f119.ext E116)
    have ne_b91_b122 : b91 ≠ b122 := Nat.ne_of_lt (Nat.lt_of_lt_of_le f126.lt (Nat.le_of_eq g122.symm))
    have f127 := (f120.ext E116)
    have ne_b95_b122 : b95 ≠ b122 := Nat.ne_of_lt (Nat.lt_of_lt_of_le f127.lt (Nat.le_of_eq g122.symm))
    have f128 := (f121.ext E116)
    have ne_b98_b122 : b98 ≠ b122 := Nat.ne_of_lt (Nat.lt_of_lt_of_le f128.lt (Nat.le_of_eq g122.symm))
    have ge_b122 : n0 ≤ b122 := Nat.le_trans Z116 (Nat.le_of_eq g122.symm)
    have sz_b122 : h0.size ≤ b122 := Nat.le_trans K116.1 (Nat.le_of_eq g122.symm)
    have Z122 : n0 ≤ h122.size := Nat.le_trans Z116 E122.1
    have K122 : Keep h0 h122 [] := K116.ext E122
    have V122 : Arv Z h122 b122 k122 .char (2 : Int32) [(.int (0 : Int32)), (.int (0 : Int32))] (.int (0 : Int32)) := (Arv.new A122 (by decide)).pad (pad_rep [] (.int (0 : Int32)) 2)
    obtain ⟨cl129, Ar129, qk129, Sz129, Ng129, Hs129, Gs129⟩ := id V122
    have hin129 : ¬ ((0 : Int32) < 0 ∨ cl129.slots.size ≤ ((0 : Int32)).toNatClampNeg) := inb_of Sz129 ⟨by decide, by decide⟩
    obtain ⟨T130, h130, X130, e130, W130, st130⟩ := stC X122 hx hZ e122 Ar129 (j := (0 : Int32)) hin129 (g := (mkF m 127 #[iv p0, iv p1, iv p2, iv p3, iv (((1 : Int32) + (0 : Int32))), iv (1 : Int32), iv (1 : Int32), rv b90, rv b98, .unset, .unset, .unset, .unset, .unset, .unset] [(.int ((p2 &&& (255 : Int32))).toUInt32.toUInt16.toUInt32.toInt32), (.int (0 : Int32)), (.ref b122), (.ref b122), (.ref b116), (.ref b116)])) rfl rfl (hb hby at_127)
    have N130 := Fr.snoc X130 N112 ge_b122
    have Z130 : n0 ≤ h130.size := Nat.le_trans Z122 (Nat.le_of_eq W130.size.symm)
    have K130 : Keep h0 h130 [] := K122.wr W130 (Or.inr sz_b122)
    have V130 : Arv Z h130 b122 k122 .char (2 : Int32) [(.int (nar .char ((p2 &&& (255 : Int32))).toUInt32.toUInt16.toUInt32.toInt32)), (.int (0 : Int32))] (.int (0 : Int32)) := Arv.set Ar129 qk129 Sz129 Ng129 Hs129 Gs129 (fits_nar_char _) W130 0 rfl (Nat.le_of_ble_eq_true rfl)
    obtain ⟨cl131, Ar131, qk131, Sz131, Ng131, Hs131, Gs131⟩ := id V130
    have hin131 : ¬ ((1 : Int32) < 0 ∨ cl131.slots.size ≤ ((1 : Int32)).toNatClampNeg) := inb_of Sz131 ⟨by decide, by decide⟩
    obtain ⟨T132, h132, X132, e132, W132, st132⟩ := stC X130 hx hZ e130 Ar131 (j := (1 : Int32)) hin131 (g := (mkF m 132 #[iv p0, iv p1, iv p2, iv p3, iv (((1 : Int32) + (0 : Int32))), iv (1 : Int32), iv (1 : Int32), rv b90, rv b98, .unset, .unset, .unset, .unset, .unset, .unset] [(.int (99 : Int32)), (.int (1 : Int32)), (.ref b122), (.ref b122), (.ref b116), (.ref b116)])) rfl rfl (hb hby at_132)
    have N132 := Fr.snoc X132 N130 ge_b122
    have Z132 : n0 ≤ h132.size := Nat.le_trans Z130 (Nat.le_of_eq W132.size.symm)
    have K132 : Keep h0 h132 [] := K130.wr W132 (Or.inr sz_b122)
    have V132 : Arv Z h132 b122 k122 .char (2 : Int32) [(.int (nar .char ((p2 &&& (255 : Int32))).toUInt32.toUInt16.toUInt32.toInt32)), (.int (nar .char (99 : Int32)))] (.int (0 : Int32)) := Arv.set Ar131 qk131 Sz131 Ng131 Hs131 Gs131 (fits_nar_char _) W132 1 rfl (Nat.le_of_ble_eq_true rfl)
    have f133 := (((A116.ext E122).wr W130).wr W132)
    have f134 := (((F116_value.ext E122).other W130 (Or.inl ne_b116_b122)).other W132 (Or.inl ne_b116_b122))
    have f135 := (((F116_coder.ext E122).other W130 (Or.inl ne_b116_b122)).other W132 (Or.inl ne_b116_b122))
    have f136 := (((((own_stak f111 K112 (allS (own_exns f108) all0)).ext E116).ext E122).wr W130).wr W132)
    obtain ⟨_, T137, Lc137, X137, hQ137, st137⟩ := own_special (W := 1) (y := mN4) X132 hx hZ rfl hown (hw _ (List.mem_of_getElem? (i := 5) rfl)) (hw _ (List.mem_of_getElem? (i := 6) rfl)) (hw _ (List.mem_of_getElem? (i := 7) rfl)) (hw _ (List.mem_of_getElem? (i := 3) rfl)) (by decide) (rmSi2_2 l Z av0 hw [] b116 b122 k122 wC (nar .char ((p2 &&& (255 : Int32))).toUInt32.toUInt16.toUInt32.toInt32) (nar .char (99 : Int32)) h132 n0 Z132 f133 f134 f135 ge_b116 V132 f136 hw0 (own_ch p2) (by decide)) (by decide) (by decide) (g := (mkF m 133 #[iv p0, iv p1, iv p2, iv p3, iv (((1 : Int32) + (0 : Int32))), iv (1 : Int32), iv (1 : Int32), rv b90, rv b98, .unset, .unset, .unset, .unset, .unset, .unset] [(.ref b122), (.ref b116), (.ref b116)])) rfl (by rw [hml]; rfl) (a := b116) (argsL := [(.ref b122)]) (rest := [(.ref b116)]) (lenOf pd__C_V rfl) rfl (by show 2 * 0 + _ ≤ _; exact Nat.le_of_eq rfl) (hb hby at_133) rfl e132 (by decide : 9 + 1 ≤ _) (by decide : 22 + 2 ≤ _)
    obtain ⟨rfl, N137q, K137, FC137, b137, kb137, FV137, V137, gb137⟩ := hQ137
    have N137 := Fr.app N132 N137q
    have e137 : T137.heap = T137.heap := rfl
    have f138 := (((f123.ext E122).other W130 ne_b100_b122).other W132 ne_b100_b122)
    have ne_b100_b137 : b100 ≠ b137 := Nat.ne_of_lt (Nat.lt_of_lt_of_le f138.lt gb137)
    have f139 := (((f124.ext E122).other W130 ne_b112_b122).other W132 ne_b112_b122)
    have ne_b112_b137 : b112 ≠ b137 := Nat.ne_of_lt (Nat.lt_of_lt_of_le f139.lt gb137)
    have ne_b116_b137 : b116 ≠ b137 := Nat.ne_of_lt (Nat.lt_of_lt_of_le f133.lt gb137)
    have ne_b122_b137 : b122 ≠ b137 := Nat.ne_of_lt (Nat.lt_of_lt_of_le V132.lt gb137)
    have f140 := (((f125.ext E122).wr W130).wr W132)
    have ne_b90_b137 : b90 ≠ b137 := Nat.ne_of_lt (Nat.lt_of_lt_of_le f140.lt gb137)
    have f141 := (((f126.ext E122).other W130 ne_b91_b122).other W132 ne_b91_b122)
    have ne_b91_b137 : b91 ≠ b137 := Nat.ne_of_lt (Nat.lt_of_lt_of_le f141.lt gb137)
    have f142 := (((f127.ext E122).other W130 ne_b95_b122).other W132 ne_b95_b122)
    have ne_b95_b137 : b95 ≠ b137 := Nat.ne_of_lt (Nat.lt_of_lt_of_le f142.lt gb137)
    have f143 := (((f128.ext E122).wr W130).wr W132)
    have ne_b98_b137 : b98 ≠ b137 := Nat.ne_of_lt (Nat.lt_of_lt_of_le f143.lt gb137)
    have ge_b137 : n0 ≤ b137 := Nat.le_trans Z132 gb137
    have sz_b137 : h0.size ≤ b137 := Nat.le_trans K132.1 gb137
    have Zk137 : n0 ≤ T137.heap.size := Nat.le_trans Z132 K137.1
    have Kk137 : Keep h0 T137.heap [] := K132.trans K137 (allS (Or.inr sz_b116) all0)
    obtain ⟨T144, h144, k144, X144, e144, E144, A144, O144, st144⟩ := newR X137 hx hZ hown (hw _ (List.mem_of_getElem? (i := 1) rfl)) (hw _ (List.mem_of_getElem? (i := 31) rfl)) e137 (g := (mkF m 140 #[iv p0, iv p1, iv p2, iv p3, iv (((1 : Int32) + (0 : Int32))), iv (1 : Int32), iv (1 : Int32), rv b90, rv b98, rv b116, .unset, .unset, .unset, .unset, .unset] [(.int ((1 : Int32) + (0 : Int32)))])) rfl (hb hby at_140) rfl (by decide) (cap := 1) (by decide) (by decide) (by decide) (by decide)
    obtain ⟨b144, g144⟩ : ∃ z, z = T137.heap.size := ⟨_, rfl⟩
    rw [← g144] at A144 st144
    have f145 := (f138.keep K137 (ninS ne_b100_b116 nin0))
    have ne_b100_b144 : b100 ≠ b144 := Nat.ne_of_lt (Nat.lt_of_lt_of_le f145.lt (Nat.le_of_eq g144.symm))
    have f146 := (f139.keep K137 (ninS ne_b112_b116 nin0))
    have ne_b112_b144 : b112 ≠ b144 := Nat.ne_of_lt (Nat.lt_of_lt_of_le f146.lt (Nat.le_of_eq g144.symm))
    have f147 := (f133.keep K137)
    have ne_b116_b144 : b116 ≠ b144 := Nat.ne_of_lt (Nat.lt_of_lt_of_le f147.lt (Nat.le_of_eq g144.symm))
    have f148 := (V132.keep K137 (ninS (Ne.symm ne_b116_b122) nin0))
    have ne_b122_b144 : b122 ≠ b144 := Nat.ne_of_lt (Nat.lt_of_lt_of_le f148.lt (Nat.le_of_eq g144.symm))
    have ne_b137_b144 : b137 ≠ b144 := Nat.ne_of_lt (Nat.lt_of_lt_of_le V137.lt (Nat.le_of_eq g144.symm))
    have f149 := (f140.keep K137)
    have ne_b90_b144 : b90 ≠ b144 := Nat.ne_of_lt (Nat.lt_of_lt_of_le f149.lt (Nat.le_of_eq g144.symm))
    have f150 := (f141.keep K137 (ninS ne_b91_b116 nin0))
    have ne_b91_b144 : b91 ≠ b144 := Nat.ne_of_lt (Nat.lt_of_lt_of_le f150.lt (Nat.le_of_eq g144.symm))
    have f151 := (f142.keep K137 (ninS ne_b95_b116 nin0))
    have ne_b95_b144 : b95 ≠ b144 := Nat.ne_of_lt (Nat.lt_of_lt_of_le f151.lt (Nat.le_of_eq g144.symm))
    have f152 := (f143.keep K137)
    have ne_b98_b144 : b98 ≠ b144 := Nat.ne_of_lt (Nat.lt_of_lt_of_le f152.lt (Nat.le_of_eq g144.symm))
    have ge_b144 : n0 ≤ b144 := Nat.le_trans Zk137 (Nat.le_of_eq g144.symm)
    have sz_b144 : h0.size ≤ b144 := Nat.le_trans Kk137.1 (Nat.le_of_eq g144.symm)
    have Z144 : n0 ≤ h144.size := Nat.le_trans Zk137 E144.1
    have K144 : Keep h0 h144 [] := Kk137.ext E144
    have V144 : Arv Z h144 b144 k144 (.object "java/lang/String") ((1 : Int32) + (0 : Int32)) [.null] .null := (Arv.new A144 (by decide)).pad (pad_rep [] .null 1)
    obtain ⟨cl153, Ar153, qk153, Sz153, Ng153, Hs153, Gs153⟩ := id V144
    have hin153 : ¬ ((0 : Int32) < 0 ∨ cl153.slots.size ≤ ((0 : Int32)).toNatClampNeg) := inb_of Sz153 ⟨by decide, by decide⟩
    have f154 := (f149.ext E144)
    obtain ⟨T155, h155, X155, e155, W155, st155⟩ := stR X144 hx hZ e144 Ar153 (j := (0 : Int32)) hin153 rfl (Sto.ofV Ar153 qk153 O144 (Ins.self f154)) (g := (mkF m 150 #[iv p0, iv p1, iv p2, iv p3, iv (((1 : Int32) + (0 : Int32))), iv (1 : Int32), iv (1 : Int32), rv b90, rv b98, rv b116, rv b144, .unset, .unset, .unset, .unset] [(.ref b90), (.int (0 : Int32)), (.ref b144)])) rfl rfl (hb hby at_150)
    have N155 := Fr.snoc X155 N137 ge_b144
    have Z155 : n0 ≤ h155.size := Nat.le_trans Z144 (Nat.le_of_eq W155.size.symm)
    have K155 : Keep h0 h155 [] := K144.wr W155 (Or.inr sz_b144)
    have V155 : Arv Z h155 b144 k144 (.object "java/lang/String") ((1 : Int32) + (0 : Int32)) [(.ref b90)] .null := Arv.set Ar153 qk153 Sz153 Ng153 Hs153 Gs153 rfl W155 0 rfl (Nat.le_of_ble_eq_true rfl)
    obtain ⟨T156, h156, X156, e156, E156, A156, D156, -, st156⟩ := newO X155 hx hZ hown (hw _ (List.mem_of_getElem? (i := 32) rfl)) (hw _ (List.mem_of_getElem? (i := 33) rfl)) (hw _ (List.mem_of_getElem? (i := 34) rfl)) e155 (g := (mkF m 175 #[iv p0, iv p1, iv p2, iv p3, iv (((1 : Int32) + (0 : Int32))), iv (1 : Int32), iv (1 : Int32), rv b90, rv b98, rv b116, rv b144, .unset, .unset, .unset, .unset] [])) rfl (hb hby at_175) (by decide) (by decide)
    obtain ⟨b156, g156⟩ : ∃ z, z = h155.size := ⟨_, rfl⟩
    rw [← g156] at A156 D156 st156
    have f157 := ((f145.ext E144).other W155 ne_b100_b144)
    have ne_b100_b156 : b100 ≠ b156 := Nat.ne_of_lt (Nat.lt_of_lt_of_le f157.lt (Nat.le_of_eq g156.symm))
    have f158 := ((f146.ext E144).other W155 ne_b112_b144)
    have ne_b112_b156 : b112 ≠ b156 := Nat.ne_of_lt (Nat.lt_of_lt_of_le f158.lt (Nat.le_of_eq g156.symm))
    have f159 := ((f147.ext E144).wr W155)
    have ne_b116_b156 : b116 ≠ b156 := Nat.ne_of_lt (Nat.lt_of_lt_of_le f159.lt (Nat.le_of_eq g156.symm))
    have f160 := ((f148.ext E144).other W155 ne_b122_b144)
    have ne_b122_b156 : b122 ≠ b156 := Nat.ne_of_lt (Nat.lt_of_lt_of_le f160.lt (Nat.le_of_eq g156.symm))
    have f161 := ((V137.ext E144).other W155 ne_b137_b144)
    have ne_b137_b156 : b137 ≠ b156 := Nat.ne_of_lt (Nat.lt_of_lt_of_le f161.lt (Nat.le_of_eq g156.symm))
    have ne_b144_b156 : b144 ≠ b156 := Nat.ne_of_lt (Nat.lt_of_lt_of_le V155.lt (Nat.le_of_eq g156.symm))
    have f162 := (f154.wr W155)
    have ne_b90_b156 : b90 ≠ b156 := Nat.ne_of_lt (Nat.lt_of_lt_of_le f162.lt (Nat.le_of_eq g156.symm))
    have f163 := ((f150.ext E144).other W155 ne_b91_b144)
    have ne_b91_b156 : b91 ≠ b156 := Nat.ne_of_lt (Nat.lt_of_lt_of_le f163.lt (Nat.le_of_eq g156.symm))
    have f164 := ((f151.ext E144).other W155 ne_b95_b144)
    have ne_b95_b156 : b95 ≠ b156 := Nat.ne_of_lt (Nat.lt_of_lt_of_le f164.lt (Nat.le_of_eq g156.symm))
    have f165 := ((f152.ext E144).wr W155)
    have ne_b98_b156 : b98 ≠ b156 := Nat.ne_of_lt (Nat.lt_of_lt_of_le f165.lt (Nat.le_of_eq g156.symm))
    have ge_b156 : n0 ≤ b156 := Nat.le_trans Z155 (Nat.le_of_eq g156.symm)
    have sz_b156 : h0.size ≤ b156 := Nat.le_trans K155.1 (Nat.le_of_eq g156.symm)
    have Z156 : n0 ≤ h156.size := Nat.le_trans Z155 E156.1
    have K156 : Keep h0 h156 [] := K155.ext E156
    have F156_arguments : Fld Z h156 b156 "com/example/steady_courier/steadycourier/OptionReader" "arguments" "[Ljava/lang/String;" .null := D156 (Or.inr (hw _ (List.mem_of_getElem? (i := 40) rfl))) (ty := (.array (.object "java/lang/String"))) (by decide)
    have F156_next : Fld Z h156 b156 "com/example/steady_courier/steadycourier/OptionReader" "next" "I" (.int (0 : Int32)) := D156 (Or.inl (hw _ (List.mem_of_getElem? (i := 47) rfl))) (ty := .int) (by decide)
    obtain ⟨_, T166, Lc166, X166, hQ166, st166⟩ := own_special (W := 1) (y := mN5) X156 hx hZ rfl hown (hw _ (List.mem_of_getElem? (i := 35) rfl)) (hw _ (List.mem_of_getElem? (i := 36) rfl)) (hw _ (List.mem_of_getElem? (i := 37) rfl)) (hw _ (List.mem_of_getElem? (i := 34) rfl)) (by decide) (rmInit l Z av0 hw [] b156 b144 h156 n0 Z156 A156 F156_arguments F156_next ge_b156) (by decide) (by decide) (g := (mkF m 181 #[iv p0, iv p1, iv p2, iv p3, iv (((1 : Int32) + (0 : Int32))), iv (1 : Int32), iv (1 : Int32), rv b90, rv b98, rv b116, rv b144, .unset, .unset, .unset, .unset] [(.ref b144), (.ref b156), (.ref b156)])) rfl (by rw [hml]; rfl) (a := b156) (argsL := [(.ref b144)]) (rest := [(.ref b156)]) (lenOf pd__Ljava_lang_String_V rfl) rfl (by show 2 * 0 + _ ≤ _; exact Nat.le_of_eq rfl) (hb hby at_181) rfl e156 (by decide : 12 + 0 ≤ _) (by decide : 27 + 0 ≤ _)
    obtain ⟨rfl, N166q, K166, FA166, FN166⟩ := hQ166
    have N166 := Fr.app N155 N166q
    have e166 : T166.heap = T166.heap := rfl
    have Zk166 : n0 ≤ T166.heap.size := Nat.le_trans Z156 K166.1
    have Kk166 : Keep h0 T166.heap [] := K156.trans K166 (allS (Or.inr sz_b156) all0)
    have f167 := ((V155.ext E156).keep K166 (ninS ne_b144_b156 nin0))
    have f169 := (A156.keep K166)
    obtain ⟨_, T168, Lc168, X168, hQ168, st168⟩ := own_virtual (W := 0) (y := mN6) (z := mN6) X166 hx hZ hown (hw _ (List.mem_of_getElem? (i := 41) rfl)) (hw _ (List.mem_of_getElem? (i := 42) rfl)) (notFace_of_selects (args := #[]) (mvT hZ (hw _ (List.mem_of_getElem? (i := 44) rfl)))) (hw _ (List.mem_of_getElem? (i := 44) rfl)) (hw _ (List.mem_of_getElem? (i := 43) rfl)) (hw _ (List.mem_of_getElem? (i := 45) rfl)) (hw _ (List.mem_of_getElem? (i := 34) rfl)) (by decide) (rmHas l Z av0 hw [] b156 b144 k144 ((1 : Int32) + (0 : Int32)) [(.ref b90)] (0 : Int32) T166.heap n0 Zk166 FA166 FN166 f167) (by decide) (by decide) f169 (g := (mkF m 188 #[iv p0, iv p1, iv p2, iv p3, iv (((1 : Int32) + (0 : Int32))), iv (1 : Int32), iv (1 : Int32), rv b90, rv b98, rv b116, rv b144, rv b156, .unset, .unset, .unset] [(.ref b156)])) rfl (by rw [hml]; rfl) (argsL := []) (rest := []) (lenOf pd__Z rfl) rfl (by show 2 * 0 + _ ≤ _; exact Nat.le_of_eq rfl) (hb hby at_188) rfl e166 (by decide : 12 + 0 ≤ _) (by decide : 27 + 0 ≤ _)
    obtain ⟨rfl, N168q, hh168⟩ := hQ168
    have N168 := Fr.app N166 N168q
    have e168 : T168.heap = T166.heap := hh168
    obtain ⟨_, T170, Lc170, X170, hQ170, st170⟩ := own_virtual (W := 0) (y := mN7) (z := mN7) X168 hx hZ hown (hw _ (List.mem_of_getElem? (i := 48) rfl)) (hw _ (List.mem_of_getElem? (i := 49) rfl)) (notFace_of_selects (args := #[]) (mvT hZ (hw _ (List.mem_of_getElem? (i := 51) rfl)))) (hw _ (List.mem_of_getElem? (i := 51) rfl)) (hw _ (List.mem_of_getElem? (i := 50) rfl)) (hw _ (List.mem_of_getElem? (i := 52) rfl)) (hw _ (List.mem_of_getElem? (i := 34) rfl)) (by decide) (rmOpt l Z av0 hw [] b156 b144 k144 ((1 : Int32) + (0 : Int32)) [(.ref b90)] (0 : Int32) b90 T166.heap n0 Zk166 FA166 FN166 f167 f169 ge_b156 (Ne.symm ne_b144_b156) (by decide) rfl) (by decide) (by decide) f169 (g := (mkF m 198 #[iv p0, iv p1, iv p2, iv p3, iv (((1 : Int32) + (0 : Int32))), iv (1 : Int32), iv (1 : Int32), rv b90, rv b98, rv b116, rv b144, rv b156, .unset, .unset, .unset] [(.ref b156)])) rfl (by rw [hml]; rfl) (argsL := []) (rest := []) (lenOf pd__Ljava_lang_String_ rfl) rfl (by show 2 * 0 + _ ≤ _; exact Nat.le_of_eq rfl) (hb hby at_198) rfl e168 (by decide : 12 + 0 ≤ _) (by decide : 27 + 0 ≤ _)
    obtain ⟨rfl, N170q, K170, FN170, FA170⟩ := hQ170
    have N170 := Fr.app N168 N170q
    have e170 : T170.heap = T170.heap := rfl
    have Zk170 : n0 ≤ T170.heap.size := Nat.le_trans Zk166 K170.1
    have Kk170 : Keep h0 T170.heap [] := Kk166.trans K170 (allS (Or.inr sz_b156) all0)
    have f172 := (((f162.ext E156).keep K166).keep K170)
    obtain ⟨_, T171, Lc171, X171, hQ171, st171⟩ := own_virtual (W := 0) (y := mN9) (z := mN9) X170 hx hZ hown (hw _ (List.mem_of_getElem? (i := 53) rfl)) (hw _ (List.mem_of_getElem? (i := 54) rfl)) (notFace_of_selects (args := #[]) (mvT hZ (hw _ (List.mem_of_getElem? (i := 56) rfl)))) (hw _ (List.mem_of_getElem? (i := 56) rfl)) (hw _ (List.mem_of_getElem? (i := 55) rfl)) (hw _ (List.mem_of_getElem? (i := 57) rfl)) (hw _ (List.mem_of_getElem? (i := 3) rfl)) (by decide) (rmSame l Z av0 hw [] b90 T170.heap n0 Zk170 ) (by decide) (by decide) f172 (g := (mkF m 207 #[iv p0, iv p1, iv p2, iv p3, iv (((1 : Int32) + (0 : Int32))), iv (1 : Int32), iv (1 : Int32), rv b90, rv b98, rv b116, rv b144, rv b156, rv b90, .unset, .unset] [(.ref b90), (.ref b90)])) rfl (by rw [hml]; rfl) (argsL := [(.ref b90)]) (rest := []) (lenOf pd__Ljava_lang_Object_Z rfl) rfl (by show 2 * 0 + _ ≤ _; exact Nat.le_of_eq rfl) (hb hby at_207) rfl e170 (by decide : 12 + 0 ≤ _) (by decide : 27 + 0 ≤ _)
    obtain ⟨rfl, N171q, hh171⟩ := hQ171
    have N171 := Fr.app N170 N171q
    have e171 : T171.heap = T170.heap := hh171
    have f173 := (f167.keep K170 (ninS ne_b144_b156 nin0))
    have f175 := (f169.keep K170)
    obtain ⟨_, T174, Lc174, X174, hQ174, st174⟩ := own_virtual (W := 0) (y := mN6) (z := mN6) X171 hx hZ hown (hw _ (List.mem_of_getElem? (i := 41) rfl)) (hw _ (List.mem_of_getElem? (i := 42) rfl)) (notFace_of_selects (args := #[]) (mvT hZ (hw _ (List.mem_of_getElem? (i := 44) rfl)))) (hw _ (List.mem_of_getElem? (i := 44) rfl)) (hw _ (List.mem_of_getElem? (i := 43) rfl)) (hw _ (List.mem_of_getElem? (i := 45) rfl)) (hw _ (List.mem_of_getElem? (i := 34) rfl)) (by decide) (rmHas l Z av0 hw [] b156 b144 k144 ((1 : Int32) + (0 : Int32)) [(.ref b90)] ((0 : Int32) + (1 : Int32)) T170.heap n0 Zk170 FA170 FN170 f173) (by decide) (by decide) f175 (g := (mkF m 217 #[iv p0, iv p1, iv p2, iv p3, iv (((1 : Int32) + (0 : Int32))), iv (1 : Int32), iv (1 : Int32), rv b90, rv b98, rv b116, rv b144, rv b156, rv b90, .unset, .unset] [(.ref b156)])) rfl (by rw [hml]; rfl) (argsL := []) (rest := []) (lenOf pd__Z rfl) rfl (by show 2 * 0 + _ ≤ _; exact Nat.le_of_eq rfl) (hb hby at_217) rfl e171 (by decide : 12 + 0 ≤ _) (by decide : 27 + 0 ≤ _)
    obtain ⟨rfl, N174q, hh174⟩ := hQ174
    have N174 := Fr.app N171 N174q
    have e174 : T174.heap = T170.heap := hh174
    have S176 : ∀ t, Steps p.tables e below (T174.setTop (mkF m 243 #[iv p0, iv p1, iv p2, iv p3, iv (((1 : Int32) + (0 : Int32))), iv (1 : Int32), iv (1 : Int32), rv b90, rv b98, rv b116, rv b144, rv b156, rv b90, .unset, .unset] [(.int (1 : Int32))])) t → Steps p.tables e below (s₁.setTop (mkF m 0 #[iv p0, iv p1, iv p2, iv p3, .unset, .unset, .unset, .unset, .unset, .unset, .unset, .unset, .unset, .unset, .unset] [])) t := fun t k => S96 t (by
      show Steps p.tables e below (T91.setTop (mkF m 54 #[iv p0, iv p1, iv p2, iv p3, iv (((1 : Int32) + (0 : Int32))), iv (1 : Int32), iv (1 : Int32), .unset, .unset, .unset, .unset, .unset, .unset, .unset, .unset] [(.ref b91), (.ref b90), (.ref b90)])) _
      refine st95 _ ?_
      refine XS.goto X95.here hx rfl (pc0 := 57) (pc' := 84) rfl (hb hby at_57) (by decide) (by decide) ?_
      show Steps p.tables e below (T95.setTop (mkF m 84 #[iv p0, iv p1, iv p2, iv p3, iv (((1 : Int32) + (0 : Int32))), iv (1 : Int32), iv (1 : Int32), .unset, .unset, .unset, .unset, .unset, .unset, .unset, .unset] [(.ref b90)])) _
      refine XS.astore X95.here hx rfl (hb hby at_84) rfl rfl (l' := #[iv p0, iv p1, iv p2, iv p3, iv (((1 : Int32) + (0 : Int32))), iv (1 : Int32), iv (1 : Int32), rv b90, .unset, .unset, .unset, .unset, .unset, .unset, .unset]) rfl ?_
      refine st98 _ ?_
      refine XS.dup X98.here hx rfl (hb hby at_89) rfl rfl ?_
      refine XT.iconstV X98.here hx rfl (2 : Int32) (hb hby at_90) (by decide) ?_
      refine st100 _ ?_
      refine XS.dup X100.here hx rfl (hb hby at_93) rfl rfl ?_
      show Steps p.tables e below (T100.setTop (mkF m 94 #[iv p0, iv p1, iv p2, iv p3, iv (((1 : Int32) + (0 : Int32))), iv (1 : Int32), iv (1 : Int32), rv b90, .unset, .unset, .unset, .unset, .unset, .unset, .unset] [(.ref b100), (.ref b100), (.ref b98), (.ref b98)])) _
      refine XT.iconstV X100.here hx rfl (0 : Int32) (hb hby at_94) (by decide) ?_
      refine XS.iloadN X100.here hx rfl (hb hby at_95) rfl ?_
      refine XT.sipushV X100.here hx rfl (255 : Int32) (hb hby at_96) (by decide) ?_
      refine XS.iand X100.here hx rfl (hb hby at_99) rfl ?_
      refine XT.i2c X100.here hx rfl (hb hby at_100) rfl ?_
      refine st105 _ ?_
      show Steps p.tables e below (T105.setTop (mkF m 102 #[iv p0, iv p1, iv p2, iv p3, iv (((1 : Int32) + (0 : Int32))), iv (1 : Int32), iv (1 : Int32), rv b90, .unset, .unset, .unset, .unset, .unset, .unset, .unset] [(.ref b100), (.ref b98), (.ref b98)])) _
      refine XS.dup X105.here hx rfl (hb hby at_102) rfl rfl ?_
      refine XT.iconstV X105.here hx rfl (1 : Int32) (hb hby at_103) (by decide) ?_
      refine XT.bipushV X105.here hx rfl (98 : Int32) (hb hby at_104) (by decide) ?_
      refine st107 _ ?_
      refine st112 _ ?_
      refine XS.astore X112.here hx rfl (hb hby at_110) rfl rfl (l' := #[iv p0, iv p1, iv p2, iv p3, iv (((1 : Int32) + (0 : Int32))), iv (1 : Int32), iv (1 : Int32), rv b90, rv b98, .unset, .unset, .unset, .unset, .unset, .unset]) rfl ?_
      show Steps p.tables e below (T112.setTop (mkF m 112 #[iv p0, iv p1, iv p2, iv p3, iv (((1 : Int32) + (0 : Int32))), iv (1 : Int32), iv (1 : Int32), rv b90, rv b98, .unset, .unset, .unset, .unset, .unset, .unset] [])) _
      refine st116 _ ?_
      refine XS.dup X116.here hx rfl (hb hby at_115) rfl rfl ?_
      refine XT.iconstV X116.here hx rfl (2 : Int32) (hb hby at_116) (by decide) ?_
      refine st122 _ ?_
      refine XS.dup X122.here hx rfl (hb hby at_119) rfl rfl ?_
      refine XT.iconstV X122.here hx rfl (0 : Int32) (hb hby at_120) (by decide) ?_
      show Steps p.tables e below (T122.setTop (mkF m 121 #[iv p0, iv p1, iv p2, iv p3, iv (((1 : Int32) + (0 : Int32))), iv (1 : Int32), iv (1 : Int32), rv b90, rv b98, .unset, .unset, .unset, .unset, .unset, .unset] [(.int (0 : Int32)), (.ref b122), (.ref b122), (.ref b116), (.ref b116)])) _
      refine XS.iloadN X122.here hx rfl (hb hby at_121) rfl ?_
      refine XT.sipushV X122.here hx rfl (255 : Int32) (hb hby at_122) (by decide) ?_
      refine XS.iand X122.here hx rfl (hb hby at_125) rfl ?_
      refine XT.i2c X122.here hx rfl (hb hby at_126) rfl ?_
      refine st130 _ ?_
      refine XS.dup X130.here hx rfl (hb hby at_128) rfl rfl ?_
      show Steps p.tables e below (T130.setTop (mkF m 129 #[iv p0, iv p1, iv p2, iv p3, iv (((1 : Int32) + (0 : Int32))), iv (1 : Int32), iv (1 : Int32), rv b90, rv b98, .unset, .unset, .unset, .unset, .unset, .unset] [(.ref b122), (.ref b122), (.ref b116), (.ref b116)])) _
      refine XT.iconstV X130.here hx rfl (1 : Int32) (hb hby at_129) (by decide) ?_
      refine XT.bipushV X130.here hx rfl (99 : Int32) (hb hby at_130) (by decide) ?_
      refine st132 _ ?_
      refine st137 _ ?_
      refine XS.astore X137.here hx rfl (hb hby at_136) rfl rfl (l' := #[iv p0, iv p1, iv p2, iv p3, iv (((1 : Int32) + (0 : Int32))), iv (1 : Int32), iv (1 : Int32), rv b90, rv b98, rv b116, .unset, .unset, .unset, .unset, .unset]) rfl ?_
      refine XS.iload X137.here hx rfl (hb hby at_138) rfl ?_
      show Steps p.tables e below (T137.setTop (mkF m 140 #[iv p0, iv p1, iv p2, iv p3, iv (((1 : Int32) + (0 : Int32))), iv (1 : Int32), iv (1 : Int32), rv b90, rv b98, rv b116, .unset, .unset, .unset, .unset, .unset] [(.int ((1 : Int32) + (0 : Int32)))])) _
      refine st144 _ ?_
      refine XS.astore X144.here hx rfl (hb hby at_143) rfl rfl (l' := #[iv p0, iv p1, iv p2, iv p3, iv (((1 : Int32) + (0 : Int32))), iv (1 : Int32), iv (1 : Int32), rv b90, rv b98, rv b116, rv b144, .unset, .unset, .unset, .unset]) rfl ?_
      refine XS.aload X144.here hx rfl (hb hby at_145) rfl rfl ?_
      refine XT.iconstV X144.here hx rfl (0 : Int32) (hb hby at_147) (by decide) ?_
      refine XS.aload X144.here hx rfl (hb hby at_148) rfl rfl ?_
      refine st155 _ ?_
      show Steps p.tables e below (T155.setTop (mkF m 151 #[iv p0, iv p1, iv p2, iv p3, iv (((1 : Int32) + (0 : Int32))), iv (1 : Int32), iv (1 : Int32), rv b90, rv b98, rv b116, rv b144, .unset, .unset, .unset, .unset] [])) _
      refine XS.iload X155.here hx rfl (hb hby at_151) rfl ?_
      refine XT.iconstV X155.here hx rfl (1 : Int32) (hb hby at_153) (by decide) ?_
      refine XS.icmpYes X155.here hx rfl (pc0 := 154) (pc' := 163) rfl (hb hby at_154) rfl (XT.ii_le_t (by decide)) (by decide) (by decide) ?_
      refine XS.iload X155.here hx rfl (hb hby at_163) rfl ?_
      refine XT.iconstV X155.here hx rfl (2 : Int32) (hb hby at_165) (by decide) ?_
      refine XS.icmpYes X155.here hx rfl (pc0 := 166) (pc' := 175) rfl (hb hby at_166) rfl (XT.ii_le_t (by decide)) (by decide) (by decide) ?_
      show Steps p.tables e below (T155.setTop (mkF m 175 #[iv p0, iv p1, iv p2, iv p3, iv (((1 : Int32) + (0 : Int32))), iv (1 : Int32), iv (1 : Int32), rv b90, rv b98, rv b116, rv b144, .unset, .unset, .unset, .unset] [])) _
      refine st156 _ ?_
      refine XS.dup X156.here hx rfl (hb hby at_178) rfl rfl ?_
      refine XS.aload X156.here hx rfl (hb hby at_179) rfl rfl ?_
      refine st166 _ ?_
      refine XS.astore X166.here hx rfl (hb hby at_184) rfl rfl (l' := #[iv p0, iv p1, iv p2, iv p3, iv (((1 : Int32) + (0 : Int32))), iv (1 : Int32), iv (1 : Int32), rv b90, rv b98, rv b116, rv b144, rv b156, .unset, .unset, .unset]) rfl ?_
      refine XS.aload X166.here hx rfl (hb hby at_186) rfl rfl ?_
      show Steps p.tables e below (T166.setTop (mkF m 188 #[iv p0, iv p1, iv p2, iv p3, iv (((1 : Int32) + (0 : Int32))), iv (1 : Int32), iv (1 : Int32), rv b90, rv b98, rv b116, rv b144, rv b156, .unset, .unset, .unset] [(.ref b156)])) _
      refine st168 _ ?_
      refine XS.ifYes X168.here hx rfl (pc0 := 191) (pc' := 196) rfl (hb hby at_191) rfl (XT.i0_ne_t (by decide)) (by decide) (by decide) ?_
      refine XS.aload X168.here hx rfl (hb hby at_196) rfl rfl ?_
      refine st170 _ ?_
      refine XS.astore X170.here hx rfl (hb hby at_201) rfl rfl (l' := #[iv p0, iv p1, iv p2, iv p3, iv (((1 : Int32) + (0 : Int32))), iv (1 : Int32), iv (1 : Int32), rv b90, rv b98, rv b116, rv b144, rv b156, rv b90, .unset, .unset]) rfl ?_
      refine XS.aload X170.here hx rfl (hb hby at_203) rfl rfl ?_
      show Steps p.tables e below (T170.setTop (mkF m 205 #[iv p0, iv p1, iv p2, iv p3, iv (((1 : Int32) + (0 : Int32))), iv (1 : Int32), iv (1 : Int32), rv b90, rv b98, rv b116, rv b144, rv b156, rv b90, .unset, .unset] [(.ref b90)])) _
      refine XS.aload X170.here hx rfl (hb hby at_205) rfl rfl ?_
      refine st171 _ ?_
      refine XS.ifYes X171.here hx rfl (pc0 := 210) (pc' := 215) rfl (hb hby at_210) rfl (XT.i0_ne_t (by decide)) (by decide) (by decide) ?_
      refine XS.aload X171.here hx rfl (hb hby at_215) rfl rfl ?_
      refine st174 _ ?_
      refine XS.iload X174.here hx rfl (hb hby at_220) rfl ?_
      show Steps p.tables e below (T174.setTop (mkF m 222 #[iv p0, iv p1, iv p2, iv p3, iv (((1 : Int32) + (0 : Int32))), iv (1 : Int32), iv (1 : Int32), rv b90, rv b98, rv b116, rv b144, rv b156, rv b90, .unset, .unset] [(.int ((1 : Int32) + (0 : Int32))), (.int (own_lt ((0 : Int32) + (1 : Int32)) ((1 : Int32) + (0 : Int32))))])) _
      refine XT.iconstV X174.here hx rfl (1 : Int32) (hb hby at_222) (by decide) ?_
      refine XS.icmpYes X174.here hx rfl (pc0 := 223) (pc' := 230) rfl (hb hby at_223) rfl (XT.ii_le_t (by decide)) (by decide) (by decide) ?_
      refine XT.iconstV X174.here hx rfl (0 : Int32) (hb hby at_230) (by decide) ?_
      refine XS.icmpYes X174.here hx rfl (pc0 := 231) (pc' := 236) rfl (hb hby at_231) rfl (XT.ii_eq_t (by decide)) (by decide) (by decide) ?_
      refine XS.iload X174.here hx rfl (hb hby at_236) rfl ?_
      refine XT.iconstV X174.here hx rfl (1 : Int32) (hb hby at_238) (by decide) ?_
      show Steps p.tables e below (T174.setTop (mkF m 239 #[iv p0, iv p1, iv p2, iv p3, iv (((1 : Int32) + (0 : Int32))), iv (1 : Int32), iv (1 : Int32), rv b90, rv b98, rv b116, rv b144, rv b156, rv b90, .unset, .unset] [(.int (1 : Int32)), (.int ((1 : Int32) + (0 : Int32)))])) _
      refine XS.icmpNo X174.here hx rfl (hb hby at_239) rfl (XT.ii_ne_f (by decide)) ?_
      refine XT.iconstV X174.here hx rfl (1 : Int32) (hb hby at_242) (by decide) ?_
      exact k)
    obtain ⟨fs, hr, hrun, hended, hEnd⟩ := X174.leaveW hS95 (by rw [e174]; exact (Nat.le_trans (Nat.le_trans (Nat.le_trans (Nat.le_trans (Nat.le_trans (Nat.le_trans (Nat.le_trans (Nat.le_trans (Nat.le_trans (Nat.le_trans (Nat.le_trans (Nat.le_trans (Nat.le_trans (Nat.le_trans (Nat.le_trans (Nat.le_refl _) E98.1) E100.1) (Nat.le_of_eq W105.size.symm)) (Nat.le_of_eq W107.size.symm)) K112.1) E116.1) E122.1) (Nat.le_of_eq W130.size.symm)) (Nat.le_of_eq W132.size.symm)) K137.1) E144.1) (Nat.le_of_eq W155.size.symm)) E156.1) K166.1) K170.1)) (v := some (.int (1 : Int32))) (fun h => by rw [Bd.returns] at h; cases h)
    refine ⟨_, _, pre0 _ (S176 _ ?_), hrun, hended, _, _, rfl, ?_, hEnd.1, hEnd.2.1, hEnd.2.2.1, hEnd.2.2.2.mono (by decide) (by decide)⟩
    · exact retN X174 hx (t := .boolean) Bd.returns (by simp) (hb hby at_243) hr
    · show Qrm0 Z p0 p1 p2 p3 wC h0 n0 _ T174.heap _
      rw [e174]
      exact ⟨rfl, N174⟩
theorem pd__Ljava_lang_String_Ljava_lang_String_ : parseMethodDescriptor "(Ljava/lang/String;)Ljava/lang/String;" = some ⟨[(.object "java/lang/String")], some (.object "java/lang/String")⟩ := by decide +kernel
set_option maxRecDepth 65536 in
set_option maxHeartbeats 40000000 in
theorem rm0_2_0 (l : Launch) (Z : State) (av0 : Array Value) (hw : ∀ d ∈ tables_1, d.before av0 Z = true) (ws : List Jvm.Cond) (p0 : Int32) (p1 : Int32) (p2 : Int32) (p3 : Int32) (wC : Int32) (h0 : Heap) (n0 : Nat) (Z0 : n0 ≤ h0.size) (hS : Sta Z h0 "java/lang/String" "COMPACT_STRINGS" "Z" (.int wC)) (hw0 : ¬ wC = (0 : Int32)) (hkp : ∀ (b : Addr) (cl : Cell), Z.heap[b]? = some cl → h0[b]? = some cl) (hcH : Jvm.Lit.constHeld Z "java/lang/String" 7) (hcw : Jvm.Lit.compactW.before av0 Z = true) (hk : own_P p3 (3 : Int32) = (1 : Int32)) (he : XT.ushr p3 (9 : Int32) &&& (1 : Int32) = (0 : Int32)) :
    MetFree l x (head1 (Jvm.Cond.code x code maxLocals ret :: ws) room_1) (fun aU U => aU = #[(.int p0), (.int p1), (.int p2), (.int p3)] ∧ Z.Warmed39 U.vm ∧ U.heap = h0 ∧ IB Z U.vm []) (fun _ _ _ _ _ => True) (fun _ U oU U' => ∃ vU LU, oU = .returned vU ∧ Qrm0 Z p0 p1 p2 p3 wC h0 n0 vU U'.heap LU ∧ ReturnedEndW U oU U' LU room_1.cells room_1.slots) := by
  refine MetFree.of_bodySF (plainFor_of_name pn_OptionReaderOptionPinLaw) hisR ?_
  intro p e s m args below meth c s₁ Bd hml0 hP hK
  obtain ⟨rfl, hZ, hh, hI⟩ := hP
  have hx := Bd.exec
  have hby := Bd.bytes
  have hml : c.maxLocals = 15 := hml0
  have hown : s.vm.findClass "com/example/steady_courier/steadycourier/OptionReaderOptionPinLaw" = some m.cls := findClass_of_methodNamed Bd.named
  have hnm := (name_of_methodNamed Bd.named Bd.method).1
  have X0 : Stand p l e room_1 s m #[(.int p0), (.int p1), (.int p2), (.int p3)] below meth c s₁ [] 0 0 := Stand.of_body Bd
  have e0 : s₁.heap = h0 := by rw [← hh, Bd.state]; rfl
  have N0 := Fr.nil n0
  have pre0 : ∀ t, Steps p.tables e below (s₁.setTop (mkF m 0 #[iv p0, iv p1, iv p2, iv p3, .unset, .unset, .unset, .unset, .unset, .unset, .unset, .unset, .unset, .unset, .unset] [])) t → Steps p.tables e below (s₁.setTop (entryFrame m #[(.int p0), (.int p1), (.int p2), (.int p3)] maxLocals)) t := fun t k => castTop (by first | (simp [entryFrame, mkF, argsToLocals, Value.category, maxLocals]; done) | rfl) k
  have S1 : ∀ t, Steps p.tables e below (s₁.setTop (mkF m 16 #[iv p0, iv p1, iv p2, iv p3, iv (((1 : Int32) + (1 : Int32))), .unset, .unset, .unset, .unset, .unset, .unset, .unset, .unset, .unset, .unset] [(.int ((XT.ushr p3 (8 : Int32)) &&& (1 : Int32)))])) t → Steps p.tables e below (s₁.setTop (mkF m 0 #[iv p0, iv p1, iv p2, iv p3, .unset, .unset, .unset, .unset, .unset, .unset, .unset, .unset, .unset, .unset, .unset] [])) t := fun t k => id (by
    show Steps p.tables e below (s₁.setTop (mkF m 0 #[iv p0, iv p1, iv p2, iv p3, .unset, .unset, .unset, .unset, .unset, .unset, .unset, .unset, .unset, .unset, .unset] [])) _
    refine XT.iconstV X0.here hx rfl (1 : Int32) (hb hby at_0) (by decide) ?_
    refine XS.iloadN X0.here hx rfl (hb hby at_1) rfl ?_
    refine X0.ldcI hx hown (mvT hZ (hw _ (List.mem_of_getElem? (i := 0) rfl))) rfl (hb hby at_2) ?_
    refine XS.iand X0.here hx rfl (hb hby at_4) rfl ?_
    refine XT.iconstV X0.here hx rfl (3 : Int32) (hb hby at_5) (by decide) ?_
    refine XS.irem X0.here hx rfl (hb hby at_6) rfl (by decide) ?_
    show Steps p.tables e below (s₁.setTop (mkF m 7 #[iv p0, iv p1, iv p2, iv p3, .unset, .unset, .unset, .unset, .unset, .unset, .unset, .unset, .unset, .unset, .unset] [(.int ((p3 &&& (2147483647 : Int32)) - ((p3 &&& (2147483647 : Int32)) / (3 : Int32)) * (3 : Int32))), (.int (1 : Int32))])) _
    show Steps p.tables e below (s₁.setTop (mkF m 7 #[iv p0, iv p1, iv p2, iv p3, .unset, .unset, .unset, .unset, .unset, .unset, .unset, .unset, .unset, .unset, .unset] [(.int ((p3 &&& (2147483647 : Int32)) - ((p3 &&& (2147483647 : Int32)) / (3 : Int32)) * (3 : Int32))), (.int (1 : Int32))])) _
    show Steps p.tables e below (s₁.setTop (mkF m 7 #[iv p0, iv p1, iv p2, iv p3, .unset, .unset, .unset, .unset, .unset, .unset, .unset, .unset, .unset, .unset, .unset] [(.int (own_P p3 (3 : Int32))), (.int (1 : Int32))])) _
    rw [hk]
    show Steps p.tables e below (s₁.setTop (mkF m 7 #[iv p0, iv p1, iv p2, iv p3, .unset, .unset, .unset, .unset, .unset, .unset, .unset, .unset, .unset, .unset, .unset] [(.int (1 : Int32)), (.int (1 : Int32))])) _
    refine XS.iadd X0.here hx rfl (hb hby at_7) rfl ?_
    refine XS.istore X0.here hx rfl (hb hby at_8) rfl (l' := #[iv p0, iv p1, iv p2, iv p3, iv (((1 : Int32) + (1 : Int32))), .unset, .unset, .unset, .unset, .unset, .unset, .unset, .unset, .unset, .unset]) rfl ?_
    refine XS.iloadN X0.here hx rfl (hb hby at_10) rfl ?_
    refine XT.bipushV X0.here hx rfl (8 : Int32) (hb hby at_11) (by decide) ?_
    refine XT.iushr X0.here hx rfl (hb hby at_13) rfl ?_
    show Steps p.tables e below (s₁.setTop (mkF m 14 #[iv p0, iv p1, iv p2, iv p3, iv (((1 : Int32) + (1 : Int32))), .unset, .unset, .unset, .unset, .unset, .unset, .unset, .unset, .unset, .unset] [(.int (XT.ushr p3 (8 : Int32)))])) _
    refine XT.iconstV X0.here hx rfl (1 : Int32) (hb hby at_14) (by decide) ?_
    refine XS.iand X0.here hx rfl (hb hby at_15) rfl ?_
    exact k)
  by_cases hc16_2 : ((XT.ushr p3 (8 : Int32)) &&& (1 : Int32)) = (0 : Int32)
  · obtain ⟨T3, h3, X3, e3, E3, A3, D3, -, st3⟩ := newO X0 hx hZ hown (hw _ (List.mem_of_getElem? (i := 1) rfl)) (hw _ (List.mem_of_getElem? (i := 2) rfl)) (hw _ (List.mem_of_getElem? (i := 3) rfl)) e0 (g := (mkF m 60 #[iv p0, iv p1, iv p2, iv p3, iv (((1 : Int32) + (1 : Int32))), iv (0 : Int32), iv (0 : Int32), .unset, .unset, .unset, .unset, .unset, .unset, .unset, .unset] [])) rfl (hb hby at_60) (by decide) (by decide)
    obtain ⟨b3, g3⟩ : ∃ z, z = h0.size := ⟨_, rfl⟩
    rw [← g3] at A3 D3 st3
    have ge_b3 : n0 ≤ b3 := Nat.le_trans Z0 (Nat.le_of_eq g3.symm)
    have sz_b3 : h0.size ≤ b3 := Nat.le_of_eq g3.symm
    have Z3 : n0 ≤ h3.size := Nat.le_trans Z0 E3.1
    have K3 : Keep h0 h3 [] := (Keep.refl h0 []).ext E3
    have F3_coder : Fld Z h3 b3 "java/lang/String" "coder" "B" (.int (0 : Int32)) := D3 (Or.inr (hw _ (List.mem_of_getElem? (i := 28) rfl))) (ty := .byte) (by decide)
    have F3_value : Fld Z h3 b3 "java/lang/String" "value" "[B" .null := D3 (Or.inr (hw _ (List.mem_of_getElem? (i := 30) rfl))) (ty := (.array .byte)) (by decide)
    obtain ⟨T4, h4, k4, X4, e4, E4, A4, st4⟩ := newP X3 hx hZ (hw _ (List.mem_of_getElem? (i := 4) rfl)) e3 (g := (mkF m 65 #[iv p0, iv p1, iv p2, iv p3, iv (((1 : Int32) + (1 : Int32))), iv (0 : Int32), iv (0 : Int32), .unset, .unset, .unset, .unset, .unset, .unset, .unset, .unset] [(.int (2 : Int32)), (.ref b3), (.ref b3)])) rfl (hb hby at_65) rfl (by decide) (cap := 2) (by decide) (by decide) (by decide) (by decide)
    obtain ⟨b4, g4⟩ : ∃ z, z = h3.size := ⟨_, rfl⟩
    rw [← g4] at A4 st4
    have ne_b3_b4 : b3 ≠ b4 := Nat.ne_of_lt (Nat.lt_of_lt_of_le A3.lt (Nat.le_of_eq g4.symm))
    have ge_b4 : n0 ≤ b4 := Nat.le_trans Z3 (Nat.le_of_eq g4.symm)
    have sz_b4 : h0.size ≤ b4 := Nat.le_trans K3.1 (Nat.le_of_eq g4.symm)
    have Z4 : n0 ≤ h4.size := Nat.le_trans Z3 E4.1
    have K4 : Keep h0 h4 [] := K3.ext E4
    have V4 : Arv Z h4 b4 k4 .char (2 : Int32) [(.int (0 : Int32)), (.int (0 : Int32))] (.int (0 : Int32)) := (Arv.new A4 (by decide)).pad (pad_rep [] (.int (0 : Int32)) 2)
    obtain ⟨cl5, Ar5, qk5, Sz5, Ng5, Hs5, Gs5⟩ := id V4
    have hin5 : ¬ ((0 : Int32) < 0 ∨ cl5.slots.size ≤ ((0 : Int32)).toNatClampNeg) := inb_of Sz5 ⟨by decide, by decide⟩
    obtain ⟨T6, h6, X6, e6, W6, st6⟩ := stC X4 hx hZ e4 Ar5 (j := (0 : Int32)) hin5 (g := (mkF m 75 #[iv p0, iv p1, iv p2, iv p3, iv (((1 : Int32) + (1 : Int32))), iv (0 : Int32), iv (0 : Int32), .unset, .unset, .unset, .unset, .unset, .unset, .unset, .unset] [(.int ((p0 &&& (255 : Int32))).toUInt32.toUInt16.toUInt32.toInt32), (.int (0 : Int32)), (.ref b4), (.ref b4), (.ref b3), (.ref b3)])) rfl rfl (hb hby at_75)
    have N6 := Fr.snoc X6 N0 ge_b4
    have Z6 : n0 ≤ h6.size := Nat.le_trans Z4 (Nat.le_of_eq W6.size.symm)
    have K6 : Keep h0 h6 [] := K4.wr W6 (Or.inr sz_b4)
    have V6 : Arv Z h6 b4 k4 .char (2 : Int32) [(.int (nar .char ((p0 &&& (255 : Int32))).toUInt32.toUInt16.toUInt32.toInt32)), (.int (0 : Int32))] (.int (0 : Int32)) := Arv.set Ar5 qk5 Sz5 Ng5 Hs5 Gs5 (fits_nar_char _) W6 0 rfl (Nat.le_of_ble_eq_true rfl)
    obtain ⟨cl7, Ar7, qk7, Sz7, Ng7, Hs7, Gs7⟩ := id V6
    have hin7 : ¬ ((1 : Int32) < 0 ∨ cl7.slots.size ≤ ((1 : Int32)).toNatClampNeg) := inb_of Sz7 ⟨by decide, by decide⟩
    obtain ⟨T8, h8, X8, e8, W8, st8⟩ := stC X6 hx hZ e6 Ar7 (j := (1 : Int32)) hin7 (g := (mkF m 80 #[iv p0, iv p1, iv p2, iv p3, iv (((1 : Int32) + (1 : Int32))), iv (0 : Int32), iv (0 : Int32), .unset, .unset, .unset, .unset, .unset, .unset, .unset, .unset] [(.int (97 : Int32)), (.int (1 : Int32)), (.ref b4), (.ref b4), (.ref b3), (.ref b3)])) rfl rfl (hb hby at_80)
    have N8 := Fr.snoc X8 N6 ge_b4
    have Z8 : n0 ≤ h8.size := Nat.le_trans Z6 (Nat.le_of_eq W8.size.symm)
    have K8 : Keep h0 h8 [] := K6.wr W8 (Or.inr sz_b4)
    have V8 : Arv Z h8 b4 k4 .char (2 : Int32) [(.int (nar .char ((p0 &&& (255 : Int32))).toUInt32.toUInt16.toUInt32.toInt32)), (.int (nar .char (97 : Int32)))] (.int (0 : Int32)) := Arv.set Ar7 qk7 Sz7 Ng7 Hs7 Gs7 (fits_nar_char _) W8 1 rfl (Nat.le_of_ble_eq_true rfl)
    have f9 := (((A3.ext E4).wr W6).wr W8)
    have f10 := (((F3_value.ext E4).other W6 (Or.inl ne_b3_b4)).other W8 (Or.inl ne_b3_b4))
    have f11 := (((F3_coder.ext E4).other W6 (Or.inl ne_b3_b4)).other W8 (Or.inl ne_b3_b4))
    have f12 := ((((hS.ext E3).ext E4).wr W6).wr W8)
    obtain ⟨_, T13, Lc13, X13, hQ13, st13⟩ := own_special (W := 1) (y := mN4) X8 hx hZ rfl hown (hw _ (List.mem_of_getElem? (i := 5) rfl)) (hw _ (List.mem_of_getElem? (i := 6) rfl)) (hw _ (List.mem_of_getElem? (i := 7) rfl)) (hw _ (List.mem_of_getElem? (i := 3) rfl)) (by decide) (rmSi2_2 l Z av0 hw [] b3 b4 k4 wC (nar .char ((p0 &&& (255 : Int32))).toUInt32.toUInt16.toUInt32.toInt32) (nar .char (97 : Int32)) h8 n0 Z8 f9 f10 f11 ge_b3 V8 f12 hw0 (own_ch p0) (by decide)) (by decide) (by decide) (g := (mkF m 81 #[iv p0, iv p1, iv p2, iv p3, iv (((1 : Int32) + (1 : Int32))), iv (0 : Int32), iv (0 : Int32), .unset, .unset, .unset, .unset, .unset, .unset, .unset, .unset] [(.ref b4), (.ref b3), (.ref b3)])) rfl (by rw [hml]; rfl) (a := b3) (argsL := [(.ref b4)]) (rest := [(.ref b3)]) (lenOf pd__C_V rfl) rfl (by show 2 * 0 + _ ≤ _; exact Nat.le_of_eq rfl) (hb hby at_81) rfl e8 (by decide : 2 + 1 ≤ _) (by decide : 6 + 2 ≤ _)
    obtain ⟨rfl, N13q, K13, FC13, b13, kb13, FV13, V13, gb13⟩ := hQ13
    have N13 := Fr.app N8 N13q
    have e13 : T13.heap = T13.heap := rfl
    have ne_b3_b13 : b3 ≠ b13 := Nat.ne_of_lt (Nat.lt_of_lt_of_le f9.lt gb13)
    have ne_b4_b13 : b4 ≠ b13 := Nat.ne_of_lt (Nat.lt_of_lt_of_le V8.lt gb13)
    have ge_b13 : n0 ≤ b13 := Nat.le_trans Z8 gb13
    have sz_b13 : h0.size ≤ b13 := Nat.le_trans K8.1 gb13
    have Zk13 : n0 ≤ T13.heap.size := Nat.le_trans Z8 K13.1
    have Kk13 : Keep h0 T13.heap [] := K8.trans K13 (allS (Or.inr sz_b3) all0)
    obtain ⟨T14, h14, X14, e14, E14, A14, D14, -, st14⟩ := newO X13 hx hZ hown (hw _ (List.mem_of_getElem? (i := 1) rfl)) (hw _ (List.mem_of_getElem? (i := 2) rfl)) (hw _ (List.mem_of_getElem? (i := 3) rfl)) e13 (g := (mkF m 86 #[iv p0, iv p1, iv p2, iv p3, iv (((1 : Int32) + (1 : Int32))), iv (0 : Int32), iv (0 : Int32), rv b3, .unset, .unset, .unset, .unset, .unset, .unset, .unset] [])) rfl (hb hby at_86) (by decide) (by decide)
    obtain ⟨b14, g14⟩ : ∃ z, z = T13.heap.size := ⟨_, rfl⟩
    rw [← g14] at A14 D14 st14
    have ne_b13_b14 : b13 ≠ b14 := Nat.ne_of_lt (Nat.lt_of_lt_of_le V13.lt (Nat.le_of_eq g14.symm))
    have f15 := (f9.keep K13)
    have ne_b3_b14 : b3 ≠ b14 := Nat.ne_of_lt (Nat.lt_of_lt_of_le f15.lt (Nat.le_of_eq g14.symm))
    have f16 := (V8.keep K13 (ninS (Ne.symm ne_b3_b4) nin0))
    have ne_b4_b14 : b4 ≠ b14 := Nat.ne_of_lt (Nat.lt_of_lt_of_le f16.lt (Nat.le_of_eq g14.symm))
    have ge_b14 : n0 ≤ b14 := Nat.le_trans Zk13 (Nat.le_of_eq g14.symm)
    have sz_b14 : h0.size ≤ b14 := Nat.le_trans Kk13.1 (Nat.le_of_eq g14.symm)
    have Z14 : n0 ≤ h14.size := Nat.le_trans Zk13 E14.1
    have K14 : Keep h0 h14 [] := Kk13.ext E14
    have F14_coder : Fld Z h14 b14 "java/lang/String" "coder" "B" (.int (0 : Int32)) := D14 (Or.inr (hw _ (List.mem_of_getElem? (i := 28) rfl))) (ty := .byte) (by decide)
    have F14_value : Fld Z h14 b14 "java/lang/String" "value" "[B" .null := D14 (Or.inr (hw _ (List.mem_of_getElem? (i := 30) rfl))) (ty := (.array .byte)) (by decide)
    obtain ⟨T17, h17, k17, X17, e17, E17, A17, st17⟩ := newP X14 hx hZ (hw _ (List.mem_of_getElem? (i := 4) rfl)) e14 (g := (mkF m 91 #[iv p0, iv p1, iv p2, iv p3, iv (((1 : Int32) + (1 : Int32))), iv (0 : Int32), iv (0 : Int32), rv b3, .unset, .unset, .unset, .unset, .unset, .unset, .unset] [(.int (2 : Int32)), (.ref b14), (.ref b14)])) rfl (hb hby at_91) rfl (by decide) (cap := 2) (by decide) (by decide) (by decide) (by decide)
    obtain ⟨b17, g17⟩ : ∃ z, z = h14.size := ⟨_, rfl⟩
    rw [← g17] at A17 st17
    have f18 := (V13.ext E14)
    have ne_b13_b17 : b13 ≠ b17 := Nat.ne_of_lt (Nat.lt_of_lt_of_le f18.lt (Nat.le_of_eq g17.symm))
    have ne_b14_b17 : b14 ≠ b17 := Nat.ne_of_lt (Nat.lt_of_lt_of_le A14.lt (Nat.le_of_eq g17.symm))
    have f19 := (f15.ext E14)
    have ne_b3_b17 : b3 ≠ b17 := Nat.ne_of_lt (Nat.lt_of_lt_of_le f19.lt (Nat.le_of_eq g17.symm))
    have f20 := (f16.ext E14)
    have ne_b4_b17 : b4 ≠ b17 := Nat.ne_of_lt (Nat.lt_of_lt_of_le f20.lt (Nat.le_of_eq g17.symm))
    have ge_b17 : n0 ≤ b17 := Nat.le_trans Z14 (Nat.le_of_eq g17.symm)
    have sz_b17 : h0.size ≤ b17 := Nat.le_trans K14.1 (Nat.le_of_eq g17.symm)
    have Z17 : n0 ≤ h17.size := Nat.le_trans Z14 E17.1
    have K17 : Keep h0 h17 [] := K14.ext E17
    have V17 : Arv Z h17 b17 k17 .char (2 : Int32) [(.int (0 : Int32)), (.int (0 : Int32))] (.int (0 : Int32)) := (Arv.new A17 (by decide)).pad (pad_rep [] (.int (0 : Int32)) 2)
    obtain ⟨cl21, Ar21, qk21, Sz21, Ng21, Hs21, Gs21⟩ := id V17
    have hin21 : ¬ ((0 : Int32) < 0 ∨ cl21.slots.size ≤ ((0 : Int32)).toNatClampNeg) := inb_of Sz21 ⟨by decide, by decide⟩
    obtain ⟨T22, h22, X22, e22, W22, st22⟩ := stC X17 hx hZ e17 Ar21 (j := (0 : Int32)) hin21 (g := (mkF m 101 #[iv p0, iv p1, iv p2, iv p3, iv (((1 : Int32) + (1 : Int32))), iv (0 : Int32), iv (0 : Int32), rv b3, .unset, .unset, .unset, .unset, .unset, .unset, .unset] [(.int ((p1 &&& (255 : Int32))).toUInt32.toUInt16.toUInt32.toInt32), (.int (0 : Int32)), (.ref b17), (.ref b17), (.ref b14), (.ref b14)])) rfl rfl (hb hby at_101)
    have N22 := Fr.snoc X22 N13 ge_b17
    have Z22 : n0 ≤ h22.size := Nat.le_trans Z17 (Nat.le_of_eq W22.size.symm)
    have K22 : Keep h0 h22 [] := K17.wr W22 (Or.inr sz_b17)
    have V22 : Arv Z h22 b17 k17 .char (2 : Int32) [(.int (nar .char ((p1 &&& (255 : Int32))).toUInt32.toUInt16.toUInt32.toInt32)), (.int (0 : Int32))] (.int (0 : Int32)) := Arv.set Ar21 qk21 Sz21 Ng21 Hs21 Gs21 (fits_nar_char _) W22 0 rfl (Nat.le_of_ble_eq_true rfl)
    obtain ⟨cl23, Ar23, qk23, Sz23, Ng23, Hs23, Gs23⟩ := id V22
    have hin23 : ¬ ((1 : Int32) < 0 ∨ cl23.slots.size ≤ ((1 : Int32)).toNatClampNeg) := inb_of Sz23 ⟨by decide, by decide⟩
    obtain ⟨T24, h24, X24, e24, W24, st24⟩ := stC X22 hx hZ e22 Ar23 (j := (1 : Int32)) hin23 (g := (mkF m 106 #[iv p0, iv p1, iv p2, iv p3, iv (((1 : Int32) + (1 : Int32))), iv (0 : Int32), iv (0 : Int32), rv b3, .unset, .unset, .unset, .unset, .unset, .unset, .unset] [(.int (98 : Int32)), (.int (1 : Int32)), (.ref b17), (.ref b17), (.ref b14), (.ref b14)])) rfl rfl (hb hby at_106)
    have N24 := Fr.snoc X24 N22 ge_b17
    have Z24 : n0 ≤ h24.size := Nat.le_trans Z22 (Nat.le_of_eq W24.size.symm)
    have K24 : Keep h0 h24 [] := K22.wr W24 (Or.inr sz_b17)
    have V24 : Arv Z h24 b17 k17 .char (2 : Int32) [(.int (nar .char ((p1 &&& (255 : Int32))).toUInt32.toUInt16.toUInt32.toInt32)), (.int (nar .char (98 : Int32)))] (.int (0 : Int32)) := Arv.set Ar23 qk23 Sz23 Ng23 Hs23 Gs23 (fits_nar_char _) W24 1 rfl (Nat.le_of_ble_eq_true rfl)
    have f25 := (((A14.ext E17).wr W22).wr W24)
    have f26 := (((F14_value.ext E17).other W22 (Or.inl ne_b14_b17)).other W24 (Or.inl ne_b14_b17))
    have f27 := (((F14_coder.ext E17).other W22 (Or.inl ne_b14_b17)).other W24 (Or.inl ne_b14_b17))
    have f28 := (((((own_stak f12 K13 (allS (own_exns f9) all0)).ext E14).ext E17).wr W22).wr W24)
    obtain ⟨_, T29, Lc29, X29, hQ29, st29⟩ := own_special (W := 1) (y := mN4) X24 hx hZ rfl hown (hw _ (List.mem_of_getElem? (i := 5) rfl)) (hw _ (List.mem_of_getElem? (i := 6) rfl)) (hw _ (List.mem_of_getElem? (i := 7) rfl)) (hw _ (List.mem_of_getElem? (i := 3) rfl)) (by decide) (rmSi2_2 l Z av0 hw [] b14 b17 k17 wC (nar .char ((p1 &&& (255 : Int32))).toUInt32.toUInt16.toUInt32.toInt32) (nar .char (98 : Int32)) h24 n0 Z24 f25 f26 f27 ge_b14 V24 f28 hw0 (own_ch p1) (by decide)) (by decide) (by decide) (g := (mkF m 107 #[iv p0, iv p1, iv p2, iv p3, iv (((1 : Int32) + (1 : Int32))), iv (0 : Int32), iv (0 : Int32), rv b3, .unset, .unset, .unset, .unset, .unset, .unset, .unset] [(.ref b17), (.ref b14), (.ref b14)])) rfl (by rw [hml]; rfl) (a := b14) (argsL := [(.ref b17)]) (rest := [(.ref b14)]) (lenOf pd__C_V rfl) rfl (by show 2 * 0 + _ ≤ _; exact Nat.le_of_eq rfl) (hb hby at_107) rfl e24 (by decide : 5 + 1 ≤ _) (by decide : 14 + 2 ≤ _)
    obtain ⟨rfl, N29q, K29, FC29, b29, kb29, FV29, V29, gb29⟩ := hQ29
    have N29 := Fr.app N24 N29q
    have e29 : T29.heap = T29.heap := rfl
    have f30 := (((f18.ext E17).other W22 ne_b13_b17).other W24 ne_b13_b17)
    have ne_b13_b29 : b13 ≠ b29 := Nat.ne_of_lt (Nat.lt_of_lt_of_le f30.lt gb29)
    have ne_b14_b29 : b14 ≠ b29 := Nat.ne_of_lt (Nat.lt_of_lt_of_le f25.lt gb29)
    have ne_b17_b29 : b17 ≠ b29 := Nat.ne_of_lt (Nat.lt_of_lt_of_le V24.lt gb29)
    have f31 := (((f19.ext E17).wr W22).wr W24)
    have ne_b3_b29 : b3 ≠ b29 := Nat.ne_of_lt (Nat.lt_of_lt_of_le f31.lt gb29)
    have f32 := (((f20.ext E17).other W22 ne_b4_b17).other W24 ne_b4_b17)
    have ne_b4_b29 : b4 ≠ b29 := Nat.ne_of_lt (Nat.lt_of_lt_of_le f32.lt gb29)
    have ge_b29 : n0 ≤ b29 := Nat.le_trans Z24 gb29
    have sz_b29 : h0.size ≤ b29 := Nat.le_trans K24.1 gb29
    have Zk29 : n0 ≤ T29.heap.size := Nat.le_trans Z24 K29.1
    have Kk29 : Keep h0 T29.heap [] := K24.trans K29 (allS (Or.inr sz_b14) all0)
    obtain ⟨T33, h33, X33, e33, E33, A33, D33, -, st33⟩ := newO X29 hx hZ hown (hw _ (List.mem_of_getElem? (i := 1) rfl)) (hw _ (List.mem_of_getElem? (i := 2) rfl)) (hw _ (List.mem_of_getElem? (i := 3) rfl)) e29 (g := (mkF m 112 #[iv p0, iv p1, iv p2, iv p3, iv (((1 : Int32) + (1 : Int32))), iv (0 : Int32), iv (0 : Int32), rv b3, rv b14, .unset, .unset, .unset, .unset, .unset, .unset] [])) rfl (hb hby at_112) (by decide) (by decide)
    obtain ⟨b33, g33⟩ : ∃ z, z = T29.heap.size := ⟨_, rfl⟩
    rw [← g33] at A33 D33 st33
    have f34 := (f30.keep K29 (ninS ne_b13_b14 nin0))
    have ne_b13_b33 : b13 ≠ b33 := Nat.ne_of_lt (Nat.lt_of_lt_of_le f34.lt (Nat.le_of_eq g33.symm))
    have f35 := (f25.keep K29)
    have ne_b14_b33 : b14 ≠ b33 := Nat.ne_of_lt (Nat.lt_of_lt_of_le f35.lt (Nat.le_of_eq g33.symm))
    have f36 := (V24.keep K29 (ninS (Ne.symm ne_b14_b17) nin0))
    have ne_b17_b33 : b17 ≠ b33 := Nat.ne_of_lt (Nat.lt_of_lt_of_le f36.lt (Nat.le_of_eq g33.symm))
    have ne_b29_b33 : b29 ≠ b33 := Nat.ne_of_lt (Nat.lt_of_lt_of_le V29.lt (Nat.le_of_eq g33.symm))
    have f37 := (f31.keep K29)
    have ne_b3_b33 : b3 ≠ b33 := Nat.ne_of_lt (Nat.lt_of_lt_of_le f37.lt (Nat.le_of_eq g33.symm))
    have f38 := (f32.keep K29 (ninS ne_b4_b14 nin0))
    have ne_b4_b33 : b4 ≠ b33 := Nat.ne_of_lt (Nat.lt_of_lt_of_le f38.lt (Nat.le_of_eq g33.symm))
    have ge_b33 : n0 ≤ b33 := Nat.le_trans Zk29 (Nat.le_of_eq g33.symm)
    have sz_b33 : h0.size ≤ b33 := Nat.le_trans Kk29.1 (Nat.le_of_eq g33.symm)
    have Z33 : n0 ≤ h33.size := Nat.le_trans Zk29 E33.1
    have K33 : Keep h0 h33 [] := Kk29.ext E33
    have F33_coder : Fld Z h33 b33 "java/lang/String" "coder" "B" (.int (0 : Int32)) := D33 (Or.inr (hw _ (List.mem_of_getElem? (i := 28) rfl))) (ty := .byte) (by decide)
    have F33_value : Fld Z h33 b33 "java/lang/String" "value" "[B" .null := D33 (Or.inr (hw _ (List.mem_of_getElem? (i := 30) rfl))) (ty := (.array .byte)) (by decide)
    obtain ⟨T39, h39, k39, X39, e39, E39, A39, st39⟩ := newP X33 hx hZ (hw _ (List.mem_of_getElem? (i := 4) rfl)) e33 (g := (mkF m 117 #[iv p0, iv p1, iv p2, iv p3, iv (((1 : Int32) + (1 : Int32))), iv (0 : Int32), iv (0 : Int32), rv b3, rv b14, .unset, .unset, .unset, .unset, .unset, .unset] [(.int (2 : Int32)), (.ref b33), (.ref b33)])) rfl (hb hby at_117) rfl (by decide) (cap := 2) (by decide) (by decide) (by decide) (by decide)
    obtain ⟨b39, g39⟩ : ∃ z, z = h33.size := ⟨_, rfl⟩
    rw [← g39] at A39 st39
    have f40 := (f34.ext E33)
    have ne_b13_b39 : b13 ≠ b39 := Nat.ne_of_lt (Nat.lt_of_lt_of_le f40.lt (Nat.le_of_eq g39.symm))
    have f41 := (f35.ext E33)
    have ne_b14_b39 : b14 ≠ b39 := Nat.ne_of_lt (Nat.lt_of_lt_of_le f41.lt (Nat.le_of_eq g39.symm))
    have f42 := (f36.ext E33)
    have ne_b17_b39 : b17 ≠ b39 := Nat.ne_of_lt (Nat.lt_of_lt_of_le f42.lt (Nat.le_of_eq g39.symm))
    have f43 := (V29.ext E33)
    have ne_b29_b39 : b29 ≠ b39 := Nat.ne_of_lt (Nat.lt_of_lt_of_le f43.lt (Nat.le_of_eq g39.symm))
    have f44 := (f37.ext E33)
    have ne_b3_b39 : b3 ≠ b39 := Nat.ne_of_lt (Nat.lt_of_lt_of_le f44.lt (Nat.le_of_eq g39.symm))
    have ne_b33_b39 : b33 ≠ b39 := Nat.ne_of_lt (Nat.lt_of_lt_of_le A33.lt (Nat.le_of_eq g39.symm))
    have f45 := (f38.ext E33)
    have ne_b4_b39 : b4 ≠ b39 := Nat.ne_of_lt (Nat.lt_of_lt_of_le f45.lt (Nat.le_of_eq g39.symm))
    have ge_b39 : n0 ≤ b39 := Nat.le_trans Z33 (Nat.le_of_eq g39.symm)
    have sz_b39 : h0.size ≤ b39 := Nat.le_trans K33.1 (Nat.le_of_eq g39.symm)
    have Z39 : n0 ≤ h39.size := Nat.le_trans Z33 E39.1
    have K39 : Keep h0 h39 [] := K33.ext E39
    have V39 : Arv Z h39 b39 k39 .char (2 : Int32) [(.int (0 : Int32)), (.int (0 : Int32))] (.int (0 : Int32)) := (Arv.new A39 (by decide)).pad (pad_rep [] (.int (0 : Int32)) 2)
    obtain ⟨cl46, Ar46, qk46, Sz46, Ng46, Hs46, Gs46⟩ := id V39
    have hin46 : ¬ ((0 : Int32) < 0 ∨ cl46.slots.size ≤ ((0 : Int32)).toNatClampNeg) := inb_of Sz46 ⟨by decide, by decide⟩
    obtain ⟨T47, h47, X47, e47, W47, st47⟩ := stC X39 hx hZ e39 Ar46 (j := (0 : Int32)) hin46 (g := (mkF m 127 #[iv p0, iv p1, iv p2, iv p3, iv (((1 : Int32) + (1 : Int32))), iv (0 : Int32), iv (0 : Int32), rv b3, rv b14, .unset, .unset, .unset, .unset, .unset, .unset] [(.int ((p2 &&& (255 : Int32))).toUInt32.toUInt16.toUInt32.toInt32), (.int (0 : Int32)), (.ref b39), (.ref b39), (.ref b33), (.ref b33)])) rfl rfl (hb hby at_127)
    have N47 := Fr.snoc X47 N29 ge_b39
    have Z47 : n0 ≤ h47.size := Nat.le_trans Z39 (Nat.le_of_eq W47.size.symm)
    have K47 : Keep h0 h47 [] := K39.wr W47 (Or.inr sz_b39)
    have V47 : Arv Z h47 b39 k39 .char (2 : Int32) [(.int (nar .char ((p2 &&& (255 : Int32))).toUInt32.toUInt16.toUInt32.toInt32)), (.int (0 : Int32))] (.int (0 : Int32)) := Arv.set Ar46 qk46 Sz46 Ng46 Hs46 Gs46 (fits_nar_char _) W47 0 rfl (Nat.le_of_ble_eq_true rfl)
    obtain ⟨cl48, Ar48, qk48, Sz48, Ng48, Hs48, Gs48⟩ := id V47
    have hin48 : ¬ ((1 : Int32) < 0 ∨ cl48.slots.size ≤ ((1 : Int32)).toNatClampNeg) := inb_of Sz48 ⟨by decide, by decide⟩
    obtain ⟨T49, h49, X49, e49, W49, st49⟩ := stC X47 hx hZ e47 Ar48 (j := (1 : Int32)) hin48 (g := (mkF m 132 #[iv p0, iv p1, iv p2, iv p3, iv (((1 : Int32) + (1 : Int32))), iv (0 : Int32), iv (0 : Int32), rv b3, rv b14, .unset, .unset, .unset, .unset, .unset, .unset] [(.int (99 : Int32)), (.int (1 : Int32)), (.ref b39), (.ref b39), (.ref b33), (.ref b33)])) rfl rfl (hb hby at_132)
    have N49 := Fr.snoc X49 N47 ge_b39
    have Z49 : n0 ≤ h49.size := Nat.le_trans Z47 (Nat.le_of_eq W49.size.symm)
    have K49 : Keep h0 h49 [] := K47.wr W49 (Or.inr sz_b39)
    have V49 : Arv Z h49 b39 k39 .char (2 : Int32) [(.int (nar .char ((p2 &&& (255 : Int32))).toUInt32.toUInt16.toUInt32.toInt32)), (.int (nar .char (99 : Int32)))] (.int (0 : Int32)) := Arv.set Ar48 qk48 Sz48 Ng48 Hs48 Gs48 (fits_nar_char _) W49 1 rfl (Nat.le_of_ble_eq_true rfl)
    have f50 := (((A33.ext E39).wr W47).wr W49)
    have f51 := (((F33_value.ext E39).other W47 (Or.inl ne_b33_b39)).other W49 (Or.inl ne_b33_b39))
    have f52 := (((F33_coder.ext E39).other W47 (Or.inl ne_b33_b39)).other W49 (Or.inl ne_b33_b39))
    have f53 := (((((own_stak f28 K29 (allS (own_exns f25) all0)).ext E33).ext E39).wr W47).wr W49)
    obtain ⟨_, T54, Lc54, X54, hQ54, st54⟩ := own_special (W := 1) (y := mN4) X49 hx hZ rfl hown (hw _ (List.mem_of_getElem? (i := 5) rfl)) (hw _ (List.mem_of_getElem? (i := 6) rfl)) (hw _ (List.mem_of_getElem? (i := 7) rfl)) (hw _ (List.mem_of_getElem? (i := 3) rfl)) (by decide) (rmSi2_2 l Z av0 hw [] b33 b39 k39 wC (nar .char ((p2 &&& (255 : Int32))).toUInt32.toUInt16.toUInt32.toInt32) (nar .char (99 : Int32)) h49 n0 Z49 f50 f51 f52 ge_b33 V49 f53 hw0 (own_ch p2) (by decide)) (by decide) (by decide) (g := (mkF m 133 #[iv p0, iv p1, iv p2, iv p3, iv (((1 : Int32) + (1 : Int32))), iv (0 : Int32), iv (0 : Int32), rv b3, rv b14, .unset, .unset, .unset, .unset, .unset, .unset] [(.ref b39), (.ref b33), (.ref b33)])) rfl (by rw [hml]; rfl) (a := b33) (argsL := [(.ref b39)]) (rest := [(.ref b33)]) (lenOf pd__C_V rfl) rfl (by show 2 * 0 + _ ≤ _; exact Nat.le_of_eq rfl) (hb hby at_133) rfl e49 (by decide : 8 + 1 ≤ _) (by decide : 22 + 2 ≤ _)
    obtain ⟨rfl, N54q, K54, FC54, b54, kb54, FV54, V54, gb54⟩ := hQ54
    have N54 := Fr.app N49 N54q
    have e54 : T54.heap = T54.heap := rfl
    have f55 := (((f40.ext E39).other W47 ne_b13_b39).other W49 ne_b13_b39)
    have ne_b13_b54 : b13 ≠ b54 := Nat.ne_of_lt (Nat.lt_of_lt_of_le f55.lt gb54)
    have f56 := (((f41.ext E39).wr W47).wr W49)
    have ne_b14_b54 : b14 ≠ b54 := Nat.ne_of_lt (Nat.lt_of_lt_of_le f56.lt gb54)
    have f57 := (((f42.ext E39).other W47 ne_b17_b39).other W49 ne_b17_b39)
    have ne_b17_b54 : b17 ≠ b54 := Nat.ne_of_lt (Nat.lt_of_lt_of_le f57.lt gb54)
    have f58 := (((f43.ext E39).other W47 ne_b29_b39).other W49 ne_b29_b39)
    have ne_b29_b54 : b29 ≠ b54 := Nat.ne_of_lt (Nat.lt_of_lt_of_le f58.lt gb54)
    have f59 := (((f44.ext E39).wr W47).wr W49)
    have ne_b3_b54 : b3 ≠ b54 := Nat.ne_of_lt (Nat.lt_of_lt_of_le f59.lt gb54)
    have ne_b33_b54 : b33 ≠ b54 := Nat.ne_of_lt (Nat.lt_of_lt_of_le f50.lt gb54)
    have ne_b39_b54 : b39 ≠ b54 := Nat.ne_of_lt (Nat.lt_of_lt_of_le V49.lt gb54)
    have f60 := (((f45.ext E39).other W47 ne_b4_b39).other W49 ne_b4_b39)
    have ne_b4_b54 : b4 ≠ b54 := Nat.ne_of_lt (Nat.lt_of_lt_of_le f60.lt gb54)
    have ge_b54 : n0 ≤ b54 := Nat.le_trans Z49 gb54
    have sz_b54 : h0.size ≤ b54 := Nat.le_trans K49.1 gb54
    have Zk54 : n0 ≤ T54.heap.size := Nat.le_trans Z49 K54.1
    have Kk54 : Keep h0 T54.heap [] := K49.trans K54 (allS (Or.inr sz_b33) all0)
    obtain ⟨T61, h61, k61, X61, e61, E61, A61, O61, st61⟩ := newR X54 hx hZ hown (hw _ (List.mem_of_getElem? (i := 1) rfl)) (hw _ (List.mem_of_getElem? (i := 31) rfl)) e54 (g := (mkF m 140 #[iv p0, iv p1, iv p2, iv p3, iv (((1 : Int32) + (1 : Int32))), iv (0 : Int32), iv (0 : Int32), rv b3, rv b14, rv b33, .unset, .unset, .unset, .unset, .unset] [(.int ((1 : Int32) + (1 : Int32)))])) rfl (hb hby at_140) rfl (by decide) (cap := 2) (by decide) (by decide) (by decide) (by decide)
    obtain ⟨b61, g61⟩ : ∃ z, z = T54.heap.size := ⟨_, rfl⟩
    rw [← g61] at A61 st61
    have f62 := (f55.keep K54 (ninS ne_b13_b33 nin0))
    have ne_b13_b61 : b13 ≠ b61 := Nat.ne_of_lt (Nat.lt_of_lt_of_le f62.lt (Nat.le_of_eq g61.symm))
    have f63 := (f56.keep K54)
    have ne_b14_b61 : b14 ≠ b61 := Nat.ne_of_lt (Nat.lt_of_lt_of_le f63.lt (Nat.le_of_eq g61.symm))
    have f64 := (f57.keep K54 (ninS ne_b17_b33 nin0))
    have ne_b17_b61 : b17 ≠ b61 := Nat.ne_of_lt (Nat.lt_of_lt_of_le f64.lt (Nat.le_of_eq g61.symm))
    have f65 := (f58.keep K54 (ninS ne_b29_b33 nin0))
    have ne_b29_b61 : b29 ≠ b61 := Nat.ne_of_lt (Nat.lt_of_lt_of_le f65.lt (Nat.le_of_eq g61.symm))
    have f66 := (f59.keep K54)
    have ne_b3_b61 : b3 ≠ b61 := Nat.ne_of_lt (Nat.lt_of_lt_of_le f66.lt (Nat.le_of_eq g61.symm))
    have f67 := (f50.keep K54)
    have ne_b33_b61 : b33 ≠ b61 := Nat.ne_of_lt (Nat.lt_of_lt_of_le f67.lt (Nat.le_of_eq g61.symm))
    have f68 := (V49.keep K54 (ninS (Ne.symm ne_b33_b39) nin0))
    have ne_b39_b61 : b39 ≠ b61 := Nat.ne_of_lt (Nat.lt_of_lt_of_le f68.lt (Nat.le_of_eq g61.symm))
    have f69 := (f60.keep K54 (ninS ne_b4_b33 nin0))
    have ne_b4_b61 : b4 ≠ b61 := Nat.ne_of_lt (Nat.lt_of_lt_of_le f69.lt (Nat.le_of_eq g61.symm))
    have ne_b54_b61 : b54 ≠ b61 := Nat.ne_of_lt (Nat.lt_of_lt_of_le V54.lt (Nat.le_of_eq g61.symm))
    have ge_b61 : n0 ≤ b61 := Nat.le_trans Zk54 (Nat.le_of_eq g61.symm)
    have sz_b61 : h0.size ≤ b61 := Nat.le_trans Kk54.1 (Nat.le_of_eq g61.symm)
    have Z61 : n0 ≤ h61.size := Nat.le_trans Zk54 E61.1
    have K61 : Keep h0 h61 [] := Kk54.ext E61
    have V61 : Arv Z h61 b61 k61 (.object "java/lang/String") ((1 : Int32) + (1 : Int32)) [.null, .null] .null := (Arv.new A61 (by decide)).pad (pad_rep [] .null 2)
    obtain ⟨cl70, Ar70, qk70, Sz70, Ng70, Hs70, Gs70⟩ := id V61
    have hin70 : ¬ ((0 : Int32) < 0 ∨ cl70.slots.size ≤ ((0 : Int32)).toNatClampNeg) := inb_of Sz70 ⟨by decide, by decide⟩
    have f71 := (f66.ext E61)
    obtain ⟨T72, h72, X72, e72, W72, st72⟩ := stR X61 hx hZ e61 Ar70 (j := (0 : Int32)) hin70 rfl (Sto.ofV Ar70 qk70 O61 (Ins.self f71)) (g := (mkF m 150 #[iv p0, iv p1, iv p2, iv p3, iv (((1 : Int32) + (1 : Int32))), iv (0 : Int32), iv (0 : Int32), rv b3, rv b14, rv b33, rv b61, .unset, .unset, .unset, .unset] [(.ref b3), (.int (0 : Int32)), (.ref b61)])) rfl rfl (hb hby at_150)
    have N72 := Fr.snoc X72 N54 ge_b61
    have Z72 : n0 ≤ h72.size := Nat.le_trans Z61 (Nat.le_of_eq W72.size.symm)
    have K72 : Keep h0 h72 [] := K61.wr W72 (Or.inr sz_b61)
    have V72 : Arv Z h72 b61 k61 (.object "java/lang/String") ((1 : Int32) + (1 : Int32)) [(.ref b3), .null] .null := Arv.set Ar70 qk70 Sz70 Ng70 Hs70 Gs70 rfl W72 0 rfl (Nat.le_of_ble_eq_true rfl)
    obtain ⟨cl73, Ar73, qk73, Sz73, Ng73, Hs73, Gs73⟩ := id V72
    have hin73 : ¬ ((1 : Int32) < 0 ∨ cl73.slots.size ≤ ((1 : Int32)).toNatClampNeg) := inb_of Sz73 ⟨by decide, by decide⟩
    have f74 := ((f63.ext E61).wr W72)
    obtain ⟨T75, h75, X75, e75, W75, st75⟩ := stR X72 hx hZ e72 Ar73 (j := (1 : Int32)) hin73 rfl (Sto.ofV Ar73 qk73 O61 (Ins.self f74)) (g := (mkF m 162 #[iv p0, iv p1, iv p2, iv p3, iv (((1 : Int32) + (1 : Int32))), iv (0 : Int32), iv (0 : Int32), rv b3, rv b14, rv b33, rv b61, .unset, .unset, .unset, .unset] [(.ref b14), (.int (1 : Int32)), (.ref b61)])) rfl rfl (hb hby at_162)
    have N75 := Fr.snoc X75 N72 ge_b61
    have Z75 : n0 ≤ h75.size := Nat.le_trans Z72 (Nat.le_of_eq W75.size.symm)
    have K75 : Keep h0 h75 [] := K72.wr W75 (Or.inr sz_b61)
    have V75 : Arv Z h75 b61 k61 (.object "java/lang/String") ((1 : Int32) + (1 : Int32)) [(.ref b3), (.ref b14)] .null := Arv.set Ar73 qk73 Sz73 Ng73 Hs73 Gs73 rfl W75 1 rfl (Nat.le_of_ble_eq_true rfl)
    obtain ⟨T76, h76, X76, e76, E76, A76, D76, -, st76⟩ := newO X75 hx hZ hown (hw _ (List.mem_of_getElem? (i := 32) rfl)) (hw _ (List.mem_of_getElem? (i := 33) rfl)) (hw _ (List.mem_of_getElem? (i := 34) rfl)) e75 (g := (mkF m 175 #[iv p0, iv p1, iv p2, iv p3, iv (((1 : Int32) + (1 : Int32))), iv (0 : Int32), iv (0 : Int32), rv b3, rv b14, rv b33, rv b61, .unset, .unset, .unset, .unset] [])) rfl (hb hby at_175) (by decide) (by decide)
    obtain ⟨b76, g76⟩ : ∃ z, z = h75.size := ⟨_, rfl⟩
    rw [← g76] at A76 D76 st76
    have f77 := (((f62.ext E61).other W72 ne_b13_b61).other W75 ne_b13_b61)
    have ne_b13_b76 : b13 ≠ b76 := Nat.ne_of_lt (Nat.lt_of_lt_of_le f77.lt (Nat.le_of_eq g76.symm))
    have f78 := (f74.wr W75)
    have ne_b14_b76 : b14 ≠ b76 := Nat.ne_of_lt (Nat.lt_of_lt_of_le f78.lt (Nat.le_of_eq g76.symm))
    have f79 := (((f64.ext E61).other W72 ne_b17_b61).other W75 ne_b17_b61)
    have ne_b17_b76 : b17 ≠ b76 := Nat.ne_of_lt (Nat.lt_of_lt_of_le f79.lt (Nat.le_of_eq g76.symm))
    have f80 := (((f65.ext E61).other W72 ne_b29_b61).other W75 ne_b29_b61)
    have ne_b29_b76 : b29 ≠ b76 := Nat.ne_of_lt (Nat.lt_of_lt_of_le f80.lt (Nat.le_of_eq g76.symm))
    have f81 := ((f71.wr W72).wr W75)
    have ne_b3_b76 : b3 ≠ b76 := Nat.ne_of_lt (Nat.lt_of_lt_of_le f81.lt (Nat.le_of_eq g76.symm))
    have f82 := (((f67.ext E61).wr W72).wr W75)
    have ne_b33_b76 : b33 ≠ b76 := Nat.ne_of_lt (Nat.lt_of_lt_of_le f82.lt (Nat.le_of_eq g76.symm))
    have f83 := (((f68.ext E61).other W72 ne_b39_b61).other W75 ne_b39_b61)
    have ne_b39_b76 : b39 ≠ b76 := Nat.ne_of_lt (Nat.lt_of_lt_of_le f83.lt (Nat.le_of_eq g76.symm))
    have f84 := (((f69.ext E61).other W72 ne_b4_b61).other W75 ne_b4_b61)
    have ne_b4_b76 : b4 ≠ b76 := Nat.ne_of_lt (Nat.lt_of_lt_of_le f84.lt (Nat.le_of_eq g76.symm))
    have f85 := (((V54.ext E61).other W72 ne_b54_b61).other W75 ne_b54_b61)
    have ne_b54_b76 : b54 ≠ b76 := Nat.ne_of_lt (Nat.lt_of_lt_of_le f85.lt (Nat.le_of_eq g76.symm))
    have ne_b61_b76 : b61 ≠ b76 := Nat.ne_of_lt (Nat.lt_of_lt_of_le V75.lt (Nat.le_of_eq g76.symm))
    have ge_b76 : n0 ≤ b76 := Nat.le_trans Z75 (Nat.le_of_eq g76.symm)
    have sz_b76 : h0.size ≤ b76 := Nat.le_trans K75.1 (Nat.le_of_eq g76.symm)
    have Z76 : n0 ≤ h76.size := Nat.le_trans Z75 E76.1
    have K76 : Keep h0 h76 [] := K75.ext E76
    have F76_arguments : Fld Z h76 b76 "com/example/steady_courier/steadycourier/OptionReader" "arguments" "[Ljava/lang/String;" .null := D76 (Or.inr (hw _ (List.mem_of_getElem? (i := 40) rfl))) (ty := (.array (.object "java/lang/String"))) (by decide)
    have F76_next : Fld Z h76 b76 "com/example/steady_courier/steadycourier/OptionReader" "next" "I" (.int (0 : Int32)) := D76 (Or.inl (hw _ (List.mem_of_getElem? (i := 47) rfl))) (ty := .int) (by decide)
    obtain ⟨_, T86, Lc86, X86, hQ86, st86⟩ := own_special (W := 1) (y := mN5) X76 hx hZ rfl hown (hw _ (List.mem_of_getElem? (i := 35) rfl)) (hw _ (List.mem_of_getElem? (i := 36) rfl)) (hw _ (List.mem_of_getElem? (i := 37) rfl)) (hw _ (List.mem_of_getElem? (i := 34) rfl)) (by decide) (rmInit l Z av0 hw [] b76 b61 h76 n0 Z76 A76 F76_arguments F76_next ge_b76) (by decide) (by decide) (g := (mkF m 181 #[iv p0, iv p1, iv p2, iv p3, iv (((1 : Int32) + (1 : Int32))), iv (0 : Int32), iv (0 : Int32), rv b3, rv b14, rv b33, rv b61, .unset, .unset, .unset, .unset] [(.ref b61), (.ref b76), (.ref b76)])) rfl (by rw [hml]; rfl) (a := b76) (argsL := [(.ref b61)]) (rest := [(.ref b76)]) (lenOf pd__Ljava_lang_String_V rfl) rfl (by show 2 * 0 + _ ≤ _; exact Nat.le_of_eq rfl) (hb hby at_181) rfl e76 (by decide : 11 + 0 ≤ _) (by decide : 28 + 0 ≤ _)
    obtain ⟨rfl, N86q, K86, FA86, FN86⟩ := hQ86
    have N86 := Fr.app N75 N86q
    have e86 : T86.heap = T86.heap := rfl
    have Zk86 : n0 ≤ T86.heap.size := Nat.le_trans Z76 K86.1
    have Kk86 : Keep h0 T86.heap [] := K76.trans K86 (allS (Or.inr sz_b76) all0)
    have f87 := ((V75.ext E76).keep K86 (ninS ne_b61_b76 nin0))
    have f89 := (A76.keep K86)
    obtain ⟨_, T88, Lc88, X88, hQ88, st88⟩ := own_virtual (W := 0) (y := mN6) (z := mN6) X86 hx hZ hown (hw _ (List.mem_of_getElem? (i := 41) rfl)) (hw _ (List.mem_of_getElem? (i := 42) rfl)) (notFace_of_selects (args := #[]) (mvT hZ (hw _ (List.mem_of_getElem? (i := 44) rfl)))) (hw _ (List.mem_of_getElem? (i := 44) rfl)) (hw _ (List.mem_of_getElem? (i := 43) rfl)) (hw _ (List.mem_of_getElem? (i := 45) rfl)) (hw _ (List.mem_of_getElem? (i := 34) rfl)) (by decide) (rmHas l Z av0 hw [] b76 b61 k61 ((1 : Int32) + (1 : Int32)) [(.ref b3), (.ref b14)] (0 : Int32) T86.heap n0 Zk86 FA86 FN86 f87) (by decide) (by decide) f89 (g := (mkF m 188 #[iv p0, iv p1, iv p2, iv p3, iv (((1 : Int32) + (1 : Int32))), iv (0 : Int32), iv (0 : Int32), rv b3, rv b14, rv b33, rv b61, rv b76, .unset, .unset, .unset] [(.ref b76)])) rfl (by rw [hml]; rfl) (argsL := []) (rest := []) (lenOf pd__Z rfl) rfl (by show 2 * 0 + _ ≤ _; exact Nat.le_of_eq rfl) (hb hby at_188) rfl e86 (by decide : 11 + 0 ≤ _) (by decide : 28 + 0 ≤ _)
    obtain ⟨rfl, N88q, hh88⟩ := hQ88
    have N88 := Fr.app N86 N88q
    have e88 : T88.heap = T86.heap := hh88
    obtain ⟨_, T90, Lc90, X90, hQ90, st90⟩ := own_virtual (W := 0) (y := mN7) (z := mN7) X88 hx hZ hown (hw _ (List.mem_of_getElem? (i := 48) rfl)) (hw _ (List.mem_of_getElem? (i := 49) rfl)) (notFace_of_selects (args := #[]) (mvT hZ (hw _ (List.mem_of_getElem? (i := 51) rfl)))) (hw _ (List.mem_of_getElem? (i := 51) rfl)) (hw _ (List.mem_of_getElem? (i := 50) rfl)) (hw _ (List.mem_of_getElem? (i := 52) rfl)) (hw _ (List.mem_of_getElem? (i := 34) rfl)) (by decide) (rmOpt l Z av0 hw [] b76 b61 k61 ((1 : Int32) + (1 : Int32)) [(.ref b3), (.ref b14)] (0 : Int32) b3 T86.heap n0 Zk86 FA86 FN86 f87 f89 ge_b76 (Ne.symm ne_b61_b76) (by decide) rfl) (by decide) (by decide) f89 (g := (mkF m 198 #[iv p0, iv p1, iv p2, iv p3, iv (((1 : Int32) + (1 : Int32))), iv (0 : Int32), iv (0 : Int32), rv b3, rv b14, rv b33, rv b61, rv b76, .unset, .unset, .unset] [(.ref b76)])) rfl (by rw [hml]; rfl) (argsL := []) (rest := []) (lenOf pd__Ljava_lang_String_ rfl) rfl (by show 2 * 0 + _ ≤ _; exact Nat.le_of_eq rfl) (hb hby at_198) rfl e88 (by decide : 11 + 0 ≤ _) (by decide : 28 + 0 ≤ _)
    obtain ⟨rfl, N90q, K90, FN90, FA90⟩ := hQ90
    have N90 := Fr.app N88 N90q
    have e90 : T90.heap = T90.heap := rfl
    have Zk90 : n0 ≤ T90.heap.size := Nat.le_trans Zk86 K90.1
    have Kk90 : Keep h0 T90.heap [] := Kk86.trans K90 (allS (Or.inr sz_b76) all0)
    have f92 := (((f81.ext E76).keep K86).keep K90)
    obtain ⟨_, T91, Lc91, X91, hQ91, st91⟩ := own_virtual (W := 0) (y := mN9) (z := mN9) X90 hx hZ hown (hw _ (List.mem_of_getElem? (i := 53) rfl)) (hw _ (List.mem_of_getElem? (i := 54) rfl)) (notFace_of_selects (args := #[]) (mvT hZ (hw _ (List.mem_of_getElem? (i := 56) rfl)))) (hw _ (List.mem_of_getElem? (i := 56) rfl)) (hw _ (List.mem_of_getElem? (i := 55) rfl)) (hw _ (List.mem_of_getElem? (i := 57) rfl)) (hw _ (List.mem_of_getElem? (i := 3) rfl)) (by decide) (rmSame l Z av0 hw [] b3 T90.heap n0 Zk90 ) (by decide) (by decide) f92 (g := (mkF m 207 #[iv p0, iv p1, iv p2, iv p3, iv (((1 : Int32) + (1 : Int32))), iv (0 : Int32), iv (0 : Int32), rv b3, rv b14, rv b33, rv b61, rv b76, rv b3, .unset, .unset] [(.ref b3), (.ref b3)])) rfl (by rw [hml]; rfl) (argsL := [(.ref b3)]) (rest := []) (lenOf pd__Ljava_lang_Object_Z rfl) rfl (by show 2 * 0 + _ ≤ _; exact Nat.le_of_eq rfl) (hb hby at_207) rfl e90 (by decide : 11 + 0 ≤ _) (by decide : 28 + 0 ≤ _)
    obtain ⟨rfl, N91q, hh91⟩ := hQ91
    have N91 := Fr.app N90 N91q
    have e91 : T91.heap = T90.heap := hh91
    have f93 := (f87.keep K90 (ninS ne_b61_b76 nin0))
    have f95 := (f89.keep K90)
    obtain ⟨_, T94, Lc94, X94, hQ94, st94⟩ := own_virtual (W := 0) (y := mN6) (z := mN6) X91 hx hZ hown (hw _ (List.mem_of_getElem? (i := 41) rfl)) (hw _ (List.mem_of_getElem? (i := 42) rfl)) (notFace_of_selects (args := #[]) (mvT hZ (hw _ (List.mem_of_getElem? (i := 44) rfl)))) (hw _ (List.mem_of_getElem? (i := 44) rfl)) (hw _ (List.mem_of_getElem? (i := 43) rfl)) (hw _ (List.mem_of_getElem? (i := 45) rfl)) (hw _ (List.mem_of_getElem? (i := 34) rfl)) (by decide) (rmHas l Z av0 hw [] b76 b61 k61 ((1 : Int32) + (1 : Int32)) [(.ref b3), (.ref b14)] ((0 : Int32) + (1 : Int32)) T90.heap n0 Zk90 FA90 FN90 f93) (by decide) (by decide) f95 (g := (mkF m 217 #[iv p0, iv p1, iv p2, iv p3, iv (((1 : Int32) + (1 : Int32))), iv (0 : Int32), iv (0 : Int32), rv b3, rv b14, rv b33, rv b61, rv b76, rv b3, .unset, .unset] [(.ref b76)])) rfl (by rw [hml]; rfl) (argsL := []) (rest := []) (lenOf pd__Z rfl) rfl (by show 2 * 0 + _ ≤ _; exact Nat.le_of_eq rfl) (hb hby at_217) rfl e91 (by decide : 11 + 0 ≤ _) (by decide : 28 + 0 ≤ _)
    obtain ⟨rfl, N94q, hh94⟩ := hQ94
    have N94 := Fr.app N91 N94q
    have e94 : T94.heap = T90.heap := hh94
    obtain ⟨_, T96, Lc96, X96, hQ96, st96⟩ := own_virtual (W := 0) (y := mN7) (z := mN7) X94 hx hZ hown (hw _ (List.mem_of_getElem? (i := 48) rfl)) (hw _ (List.mem_of_getElem? (i := 49) rfl)) (notFace_of_selects (args := #[]) (mvT hZ (hw _ (List.mem_of_getElem? (i := 51) rfl)))) (hw _ (List.mem_of_getElem? (i := 51) rfl)) (hw _ (List.mem_of_getElem? (i := 50) rfl)) (hw _ (List.mem_of_getElem? (i := 52) rfl)) (hw _ (List.mem_of_getElem? (i := 34) rfl)) (by decide) (rmOpt l Z av0 hw [] b76 b61 k61 ((1 : Int32) + (1 : Int32)) [(.ref b3), (.ref b14)] ((0 : Int32) + (1 : Int32)) b14 T90.heap n0 Zk90 FA90 FN90 f93 f95 ge_b76 (Ne.symm ne_b61_b76) (by decide) rfl) (by decide) (by decide) f95 (g := (mkF m 261 #[iv p0, iv p1, iv p2, iv p3, iv (((1 : Int32) + (1 : Int32))), iv (0 : Int32), iv (0 : Int32), rv b3, rv b14, rv b33, rv b61, rv b76, rv b3, .unset, .unset] [(.ref b76)])) rfl (by rw [hml]; rfl) (argsL := []) (rest := []) (lenOf pd__Ljava_lang_String_ rfl) rfl (by show 2 * 0 + _ ≤ _; exact Nat.le_of_eq rfl) (hb hby at_261) rfl e94 (by decide : 11 + 0 ≤ _) (by decide : 28 + 0 ≤ _)
    obtain ⟨rfl, N96q, K96, FN96, FA96⟩ := hQ96
    have N96 := Fr.app N94 N96q
    have e96 : T96.heap = T96.heap := rfl
    have Zk96 : n0 ≤ T96.heap.size := Nat.le_trans Zk90 K96.1
    have Kk96 : Keep h0 T96.heap [] := Kk90.trans K96 (allS (Or.inr sz_b76) all0)
    have f98 := ((((f78.ext E76).keep K86).keep K90).keep K96)
    obtain ⟨_, T97, Lc97, X97, hQ97, st97⟩ := own_virtual (W := 0) (y := mN9) (z := mN9) X96 hx hZ hown (hw _ (List.mem_of_getElem? (i := 53) rfl)) (hw _ (List.mem_of_getElem? (i := 54) rfl)) (notFace_of_selects (args := #[]) (mvT hZ (hw _ (List.mem_of_getElem? (i := 56) rfl)))) (hw _ (List.mem_of_getElem? (i := 56) rfl)) (hw _ (List.mem_of_getElem? (i := 55) rfl)) (hw _ (List.mem_of_getElem? (i := 57) rfl)) (hw _ (List.mem_of_getElem? (i := 3) rfl)) (by decide) (rmSame l Z av0 hw [] b14 T96.heap n0 Zk96 ) (by decide) (by decide) f98 (g := (mkF m 270 #[iv p0, iv p1, iv p2, iv p3, iv (((1 : Int32) + (1 : Int32))), iv (0 : Int32), iv (0 : Int32), rv b3, rv b14, rv b33, rv b61, rv b76, rv b3, rv b14, .unset] [(.ref b14), (.ref b14)])) rfl (by rw [hml]; rfl) (argsL := [(.ref b14)]) (rest := []) (lenOf pd__Ljava_lang_Object_Z rfl) rfl (by show 2 * 0 + _ ≤ _; exact Nat.le_of_eq rfl) (hb hby at_270) rfl e96 (by decide : 11 + 0 ≤ _) (by decide : 28 + 0 ≤ _)
    obtain ⟨rfl, N97q, hh97⟩ := hQ97
    have N97 := Fr.app N96 N97q
    have e97 : T97.heap = T96.heap := hh97
    have f99 := (f93.keep K96 (ninS ne_b61_b76 nin0))
    have f101 := (f95.keep K96)
    obtain ⟨_, T100, Lc100, X100, hQ100, st100⟩ := own_virtual (W := 0) (y := mN6) (z := mN6) X97 hx hZ hown (hw _ (List.mem_of_getElem? (i := 41) rfl)) (hw _ (List.mem_of_getElem? (i := 42) rfl)) (notFace_of_selects (args := #[]) (mvT hZ (hw _ (List.mem_of_getElem? (i := 44) rfl)))) (hw _ (List.mem_of_getElem? (i := 44) rfl)) (hw _ (List.mem_of_getElem? (i := 43) rfl)) (hw _ (List.mem_of_getElem? (i := 45) rfl)) (hw _ (List.mem_of_getElem? (i := 34) rfl)) (by decide) (rmHas l Z av0 hw [] b76 b61 k61 ((1 : Int32) + (1 : Int32)) [(.ref b3), (.ref b14)] (((0 : Int32) + (1 : Int32)) + (1 : Int32)) T96.heap n0 Zk96 FA96 FN96 f99) (by decide) (by decide) f101 (g := (mkF m 280 #[iv p0, iv p1, iv p2, iv p3, iv (((1 : Int32) + (1 : Int32))), iv (0 : Int32), iv (0 : Int32), rv b3, rv b14, rv b33, rv b61, rv b76, rv b3, rv b14, .unset] [(.ref b76)])) rfl (by rw [hml]; rfl) (argsL := []) (rest := []) (lenOf pd__Z rfl) rfl (by show 2 * 0 + _ ≤ _; exact Nat.le_of_eq rfl) (hb hby at_280) rfl e97 (by decide : 11 + 0 ≤ _) (by decide : 28 + 0 ≤ _)
    obtain ⟨rfl, N100q, hh100⟩ := hQ100
    have N100 := Fr.app N97 N100q
    have e100 : T100.heap = T96.heap := hh100
    have S102 : ∀ t, Steps p.tables e below (T100.setTop (mkF m 306 #[iv p0, iv p1, iv p2, iv p3, iv (((1 : Int32) + (1 : Int32))), iv (0 : Int32), iv (0 : Int32), rv b3, rv b14, rv b33, rv b61, rv b76, rv b3, rv b14, .unset] [(.int (1 : Int32))])) t → Steps p.tables e below (s₁.setTop (mkF m 0 #[iv p0, iv p1, iv p2, iv p3, .unset, .unset, .unset, .unset, .unset, .unset, .unset, .unset, .unset, .unset, .unset] [])) t := fun t k => S1 t (by
      show Steps p.tables e below (s₁.setTop (mkF m 16 #[iv p0, iv p1, iv p2, iv p3, iv (((1 : Int32) + (1 : Int32))), .unset, .unset, .unset, .unset, .unset, .unset, .unset, .unset, .unset, .unset] [(.int ((XT.ushr p3 (8 : Int32)) &&& (1 : Int32)))])) _
      refine XS.ifYes X0.here hx rfl (pc0 := 16) (pc' := 23) rfl (hb hby at_16) rfl (XT.i0_eq_t hc16_2) (by decide) (by decide) ?_
      refine XT.iconstV X0.here hx rfl (0 : Int32) (hb hby at_23) (by decide) ?_
      refine XS.istore X0.here hx rfl (hb hby at_24) rfl (l' := #[iv p0, iv p1, iv p2, iv p3, iv (((1 : Int32) + (1 : Int32))), iv (0 : Int32), .unset, .unset, .unset, .unset, .unset, .unset, .unset, .unset, .unset]) rfl ?_
      refine XS.iloadN X0.here hx rfl (hb hby at_26) rfl ?_
      show Steps p.tables e below (s₁.setTop (mkF m 27 #[iv p0, iv p1, iv p2, iv p3, iv (((1 : Int32) + (1 : Int32))), iv (0 : Int32), .unset, .unset, .unset, .unset, .unset, .unset, .unset, .unset, .unset] [(.int p3)])) _
      refine XT.bipushV X0.here hx rfl (9 : Int32) (hb hby at_27) (by decide) ?_
      refine XT.iushr X0.here hx rfl (hb hby at_29) rfl ?_
      refine XT.iconstV X0.here hx rfl (1 : Int32) (hb hby at_30) (by decide) ?_
      refine XS.iand X0.here hx rfl (hb hby at_31) rfl ?_
      show Steps p.tables e below (s₁.setTop (mkF m 32 #[iv p0, iv p1, iv p2, iv p3, iv (((1 : Int32) + (1 : Int32))), iv (0 : Int32), .unset, .unset, .unset, .unset, .unset, .unset, .unset, .unset, .unset] [(.int ((XT.ushr p3 (9 : Int32)) &&& (1 : Int32)))])) _
      rw [he]
      show Steps p.tables e below (s₁.setTop (mkF m 32 #[iv p0, iv p1, iv p2, iv p3, iv (((1 : Int32) + (1 : Int32))), iv (0 : Int32), .unset, .unset, .unset, .unset, .unset, .unset, .unset, .unset, .unset] [(.int (0 : Int32))])) _
      refine XS.ifYes X0.here hx rfl (pc0 := 32) (pc' := 39) rfl (hb hby at_32) rfl (XT.i0_eq_t (by decide)) (by decide) (by decide) ?_
      show Steps p.tables e below (s₁.setTop (mkF m 39 #[iv p0, iv p1, iv p2, iv p3, iv (((1 : Int32) + (1 : Int32))), iv (0 : Int32), .unset, .unset, .unset, .unset, .unset, .unset, .unset, .unset, .unset] [])) _
      refine XT.iconstV X0.here hx rfl (0 : Int32) (hb hby at_39) (by decide) ?_
      refine XS.istore X0.here hx rfl (hb hby at_40) rfl (l' := #[iv p0, iv p1, iv p2, iv p3, iv (((1 : Int32) + (1 : Int32))), iv (0 : Int32), iv (0 : Int32), .unset, .unset, .unset, .unset, .unset, .unset, .unset, .unset]) rfl ?_
      refine XS.iload X0.here hx rfl (hb hby at_42) rfl ?_
      refine XS.ifYes X0.here hx rfl (pc0 := 44) (pc' := 60) rfl (hb hby at_44) rfl (XT.i0_eq_t (by decide)) (by decide) (by decide) ?_
      refine st3 _ ?_
      refine XS.dup X3.here hx rfl (hb hby at_63) rfl rfl ?_
      show Steps p.tables e below (T3.setTop (mkF m 64 #[iv p0, iv p1, iv p2, iv p3, iv (((1 : Int32) + (1 : Int32))), iv (0 : Int32), iv (0 : Int32), .unset, .unset, .unset, .unset, .unset, .unset, .unset, .unset] [(.ref b3), (.ref b3)])) _
      refine XT.iconstV X3.here hx rfl (2 : Int32) (hb hby at_64) (by decide) ?_
      refine st4 _ ?_
      refine XS.dup X4.here hx rfl (hb hby at_67) rfl rfl ?_
      refine XT.iconstV X4.here hx rfl (0 : Int32) (hb hby at_68) (by decide) ?_
      refine XS.iloadN X4.here hx rfl (hb hby at_69) rfl ?_
      refine XT.sipushV X4.here hx rfl (255 : Int32) (hb hby at_70) (by decide) ?_
      show Steps p.tables e below (T4.setTop (mkF m 73 #[iv p0, iv p1, iv p2, iv p3, iv (((1 : Int32) + (1 : Int32))), iv (0 : Int32), iv (0 : Int32), .unset, .unset, .unset, .unset, .unset, .unset, .unset, .unset] [(.int (255 : Int32)), (.int p0), (.int (0 : Int32)), (.ref b4), (.ref b4), (.ref b3), (.ref b3)])) _
      refine XS.iand X4.here hx rfl (hb hby at_73) rfl ?_
      refine XT.i2c X4.here hx rfl (hb hby at_74) rfl ?_
      refine st6 _ ?_
      refine XS.dup X6.here hx rfl (hb hby at_76) rfl rfl ?_
      refine XT.iconstV X6.here hx rfl (1 : Int32) (hb hby at_77) (by decide) ?_
      refine XT.bipushV X6.here hx rfl (97 : Int32) (hb hby at_78) (by decide) ?_
      show Steps p.tables e below (T6.setTop (mkF m 80 #[iv p0, iv p1, iv p2, iv p3, iv (((1 : Int32) + (1 : Int32))), iv (0 : Int32), iv (0 : Int32), .unset, .unset, .unset, .unset, .unset, .unset, .unset, .unset] [(.int (97 : Int32)), (.int (1 : Int32)), (.ref b4), (.ref b4), (.ref b3), (.ref b3)])) _
      refine st8 _ ?_
      refine st13 _ ?_
      refine XS.astore X13.here hx rfl (hb hby at_84) rfl rfl (l' := #[iv p0, iv p1, iv p2, iv p3, iv (((1 : Int32) + (1 : Int32))), iv (0 : Int32), iv (0 : Int32), rv b3, .unset, .unset, .unset, .unset, .unset, .unset, .unset]) rfl ?_
      refine st14 _ ?_
      refine XS.dup X14.here hx rfl (hb hby at_89) rfl rfl ?_
      refine XT.iconstV X14.here hx rfl (2 : Int32) (hb hby at_90) (by decide) ?_
      show Steps p.tables e below (T14.setTop (mkF m 91 #[iv p0, iv p1, iv p2, iv p3, iv (((1 : Int32) + (1 : Int32))), iv (0 : Int32), iv (0 : Int32), rv b3, .unset, .unset, .unset, .unset, .unset, .unset, .unset] [(.int (2 : Int32)), (.ref b14), (.ref b14)])) _
      refine st17 _ ?_
      refine XS.dup X17.here hx rfl (hb hby at_93) rfl rfl ?_
      refine XT.iconstV X17.here hx rfl (0 : Int32) (hb hby at_94) (by decide) ?_
      refine XS.iloadN X17.here hx rfl (hb hby at_95) rfl ?_
      refine XT.sipushV X17.here hx rfl (255 : Int32) (hb hby at_96) (by decide) ?_
      refine XS.iand X17.here hx rfl (hb hby at_99) rfl ?_
      show Steps p.tables e below (T17.setTop (mkF m 100 #[iv p0, iv p1, iv p2, iv p3, iv (((1 : Int32) + (1 : Int32))), iv (0 : Int32), iv (0 : Int32), rv b3, .unset, .unset, .unset, .unset, .unset, .unset, .unset] [(.int (p1 &&& (255 : Int32))), (.int (0 : Int32)), (.ref b17), (.ref b17), (.ref b14), (.ref b14)])) _
      refine XT.i2c X17.here hx rfl (hb hby at_100) rfl ?_
      refine st22 _ ?_
      refine XS.dup X22.here hx rfl (hb hby at_102) rfl rfl ?_
      refine XT.iconstV X22.here hx rfl (1 : Int32) (hb hby at_103) (by decide) ?_
      refine XT.bipushV X22.here hx rfl (98 : Int32) (hb hby at_104) (by decide) ?_
      refine st24 _ ?_
      show Steps p.tables e below (T24.setTop (mkF m 107 #[iv p0, iv p1, iv p2, iv p3, iv (((1 : Int32) + (1 : Int32))), iv (0 : Int32), iv (0 : Int32), rv b3, .unset, .unset, .unset, .unset, .unset, .unset, .unset] [(.ref b17), (.ref b14), (.ref b14)])) _
      refine st29 _ ?_
      refine XS.astore X29.here hx rfl (hb hby at_110) rfl rfl (l' := #[iv p0, iv p1, iv p2, iv p3, iv (((1 : Int32) + (1 : Int32))), iv (0 : Int32), iv (0 : Int32), rv b3, rv b14, .unset, .unset, .unset, .unset, .unset, .unset]) rfl ?_
      refine st33 _ ?_
      refine XS.dup X33.here hx rfl (hb hby at_115) rfl rfl ?_
      refine XT.iconstV X33.here hx rfl (2 : Int32) (hb hby at_116) (by decide) ?_
      refine st39 _ ?_
      show Steps p.tables e below (T39.setTop (mkF m 119 #[iv p0, iv p1, iv p2, iv p3, iv (((1 : Int32) + (1 : Int32))), iv (0 : Int32), iv (0 : Int32), rv b3, rv b14, .unset, .unset, .unset, .unset, .unset, .unset] [(.ref b39), (.ref b33), (.ref b33)])) _
      refine XS.dup X39.here hx rfl (hb hby at_119) rfl rfl ?_
      refine XT.iconstV X39.here hx rfl (0 : Int32) (hb hby at_120) (by decide) ?_
      refine XS.iloadN X39.here hx rfl (hb hby at_121) rfl ?_
      refine XT.sipushV X39.here hx rfl (255 : Int32) (hb hby at_122) (by decide) ?_
      refine XS.iand X39.here hx rfl (hb hby at_125) rfl ?_
      refine XT.i2c X39.here hx rfl (hb hby at_126) rfl ?_
      show Steps p.tables e below (T39.setTop (mkF m 127 #[iv p0, iv p1, iv p2, iv p3, iv (((1 : Int32) + (1 : Int32))), iv (0 : Int32), iv (0 : Int32), rv b3, rv b14, .unset, .unset, .unset, .unset, .unset, .unset] [(.int ((p2 &&& (255 : Int32))).toUInt32.toUInt16.toUInt32.toInt32), (.int (0 : Int32)), (.ref b39), (.ref b39), (.ref b33), (.ref b33)])) _
      refine st47 _ ?_
      refine XS.dup X47.here hx rfl (hb hby at_128) rfl rfl ?_
      refine XT.iconstV X47.here hx rfl (1 : Int32) (hb hby at_129) (by decide) ?_
      refine XT.bipushV X47.here hx rfl (99 : Int32) (hb hby at_130) (by decide) ?_
      refine st49 _ ?_
      refine st54 _ ?_
      show Steps p.tables e below (T54.setTop (mkF m 136 #[iv p0, iv p1, iv p2, iv p3, iv (((1 : Int32) + (1 : Int32))), iv (0 : Int32), iv (0 : Int32), rv b3, rv b14, .unset, .unset, .unset, .unset, .unset, .unset] [(.ref b33)])) _
      refine XS.astore X54.here hx rfl (hb hby at_136) rfl rfl (l' := #[iv p0, iv p1, iv p2, iv p3, iv (((1 : Int32) + (1 : Int32))), iv (0 : Int32), iv (0 : Int32), rv b3, rv b14, rv b33, .unset, .unset, .unset, .unset, .unset]) rfl ?_
      refine XS.iload X54.here hx rfl (hb hby at_138) rfl ?_
      refine st61 _ ?_
      refine XS.astore X61.here hx rfl (hb hby at_143) rfl rfl (l' := #[iv p0, iv p1, iv p2, iv p3, iv (((1 : Int32) + (1 : Int32))), iv (0 : Int32), iv (0 : Int32), rv b3, rv b14, rv b33, rv b61, .unset, .unset, .unset, .unset]) rfl ?_
      refine XS.aload X61.here hx rfl (hb hby at_145) rfl rfl ?_
      refine XT.iconstV X61.here hx rfl (0 : Int32) (hb hby at_147) (by decide) ?_
      show Steps p.tables e below (T61.setTop (mkF m 148 #[iv p0, iv p1, iv p2, iv p3, iv (((1 : Int32) + (1 : Int32))), iv (0 : Int32), iv (0 : Int32), rv b3, rv b14, rv b33, rv b61, .unset, .unset, .unset, .unset] [(.int (0 : Int32)), (.ref b61)])) _
      refine XS.aload X61.here hx rfl (hb hby at_148) rfl rfl ?_
      refine st72 _ ?_
      refine XS.iload X72.here hx rfl (hb hby at_151) rfl ?_
      refine XT.iconstV X72.here hx rfl (1 : Int32) (hb hby at_153) (by decide) ?_
      refine XS.icmpNo X72.here hx rfl (hb hby at_154) rfl (XT.ii_le_f (by decide)) ?_
      refine XS.aload X72.here hx rfl (hb hby at_157) rfl rfl ?_
      show Steps p.tables e below (T72.setTop (mkF m 159 #[iv p0, iv p1, iv p2, iv p3, iv (((1 : Int32) + (1 : Int32))), iv (0 : Int32), iv (0 : Int32), rv b3, rv b14, rv b33, rv b61, .unset, .unset, .unset, .unset] [(.ref b61)])) _
      refine XT.iconstV X72.here hx rfl (1 : Int32) (hb hby at_159) (by decide) ?_
      refine XS.aload X72.here hx rfl (hb hby at_160) rfl rfl ?_
      refine st75 _ ?_
      refine XS.iload X75.here hx rfl (hb hby at_163) rfl ?_
      refine XT.iconstV X75.here hx rfl (2 : Int32) (hb hby at_165) (by decide) ?_
      refine XS.icmpYes X75.here hx rfl (pc0 := 166) (pc' := 175) rfl (hb hby at_166) rfl (XT.ii_le_t (by decide)) (by decide) (by decide) ?_
      show Steps p.tables e below (T75.setTop (mkF m 175 #[iv p0, iv p1, iv p2, iv p3, iv (((1 : Int32) + (1 : Int32))), iv (0 : Int32), iv (0 : Int32), rv b3, rv b14, rv b33, rv b61, .unset, .unset, .unset, .unset] [])) _
      refine st76 _ ?_
      refine XS.dup X76.here hx rfl (hb hby at_178) rfl rfl ?_
      refine XS.aload X76.here hx rfl (hb hby at_179) rfl rfl ?_
      refine st86 _ ?_
      refine XS.astore X86.here hx rfl (hb hby at_184) rfl rfl (l' := #[iv p0, iv p1, iv p2, iv p3, iv (((1 : Int32) + (1 : Int32))), iv (0 : Int32), iv (0 : Int32), rv b3, rv b14, rv b33, rv b61, rv b76, .unset, .unset, .unset]) rfl ?_
      refine XS.aload X86.here hx rfl (hb hby at_186) rfl rfl ?_
      show Steps p.tables e below (T86.setTop (mkF m 188 #[iv p0, iv p1, iv p2, iv p3, iv (((1 : Int32) + (1 : Int32))), iv (0 : Int32), iv (0 : Int32), rv b3, rv b14, rv b33, rv b61, rv b76, .unset, .unset, .unset] [(.ref b76)])) _
      refine st88 _ ?_
      refine XS.ifYes X88.here hx rfl (pc0 := 191) (pc' := 196) rfl (hb hby at_191) rfl (XT.i0_ne_t (by decide)) (by decide) (by decide) ?_
      refine XS.aload X88.here hx rfl (hb hby at_196) rfl rfl ?_
      refine st90 _ ?_
      refine XS.astore X90.here hx rfl (hb hby at_201) rfl rfl (l' := #[iv p0, iv p1, iv p2, iv p3, iv (((1 : Int32) + (1 : Int32))), iv (0 : Int32), iv (0 : Int32), rv b3, rv b14, rv b33, rv b61, rv b76, rv b3, .unset, .unset]) rfl ?_
      refine XS.aload X90.here hx rfl (hb hby at_203) rfl rfl ?_
      show Steps p.tables e below (T90.setTop (mkF m 205 #[iv p0, iv p1, iv p2, iv p3, iv (((1 : Int32) + (1 : Int32))), iv (0 : Int32), iv (0 : Int32), rv b3, rv b14, rv b33, rv b61, rv b76, rv b3, .unset, .unset] [(.ref b3)])) _
      refine XS.aload X90.here hx rfl (hb hby at_205) rfl rfl ?_
      refine st91 _ ?_
      refine XS.ifYes X91.here hx rfl (pc0 := 210) (pc' := 215) rfl (hb hby at_210) rfl (XT.i0_ne_t (by decide)) (by decide) (by decide) ?_
      refine XS.aload X91.here hx rfl (hb hby at_215) rfl rfl ?_
      refine st94 _ ?_
      refine XS.iload X94.here hx rfl (hb hby at_220) rfl ?_
      show Steps p.tables e below (T94.setTop (mkF m 222 #[iv p0, iv p1, iv p2, iv p3, iv (((1 : Int32) + (1 : Int32))), iv (0 : Int32), iv (0 : Int32), rv b3, rv b14, rv b33, rv b61, rv b76, rv b3, .unset, .unset] [(.int ((1 : Int32) + (1 : Int32))), (.int (own_lt ((0 : Int32) + (1 : Int32)) ((1 : Int32) + (1 : Int32))))])) _
      refine XT.iconstV X94.here hx rfl (1 : Int32) (hb hby at_222) (by decide) ?_
      refine XS.icmpNo X94.here hx rfl (hb hby at_223) rfl (XT.ii_le_f (by decide)) ?_
      refine XT.iconstV X94.here hx rfl (1 : Int32) (hb hby at_226) (by decide) ?_
      refine XS.goto X94.here hx rfl (pc0 := 227) (pc' := 231) rfl (hb hby at_227) (by decide) (by decide) ?_
      refine XS.icmpYes X94.here hx rfl (pc0 := 231) (pc' := 236) rfl (hb hby at_231) rfl (XT.ii_eq_t (by decide)) (by decide) (by decide) ?_
      refine XS.iload X94.here hx rfl (hb hby at_236) rfl ?_
      show Steps p.tables e below (T94.setTop (mkF m 238 #[iv p0, iv p1, iv p2, iv p3, iv (((1 : Int32) + (1 : Int32))), iv (0 : Int32), iv (0 : Int32), rv b3, rv b14, rv b33, rv b61, rv b76, rv b3, .unset, .unset] [(.int ((1 : Int32) + (1 : Int32)))])) _
      refine XT.iconstV X94.here hx rfl (1 : Int32) (hb hby at_238) (by decide) ?_
      refine XS.icmpYes X94.here hx rfl (pc0 := 239) (pc' := 244) rfl (hb hby at_239) rfl (XT.ii_ne_t (by decide)) (by decide) (by decide) ?_
      refine XS.iload X94.here hx rfl (hb hby at_244) rfl ?_
      refine XS.ifYes X94.here hx rfl (pc0 := 246) (pc' := 259) rfl (hb hby at_246) rfl (XT.i0_eq_t (by decide)) (by decide) (by decide) ?_
      refine XS.aload X94.here hx rfl (hb hby at_259) rfl rfl ?_
      refine st96 _ ?_
      show Steps p.tables e below (T96.setTop (mkF m 264 #[iv p0, iv p1, iv p2, iv p3, iv (((1 : Int32) + (1 : Int32))), iv (0 : Int32), iv (0 : Int32), rv b3, rv b14, rv b33, rv b61, rv b76, rv b3, .unset, .unset] [(.ref b14)])) _
      refine XS.astore X96.here hx rfl (hb hby at_264) rfl rfl (l' := #[iv p0, iv p1, iv p2, iv p3, iv (((1 : Int32) + (1 : Int32))), iv (0 : Int32), iv (0 : Int32), rv b3, rv b14, rv b33, rv b61, rv b76, rv b3, rv b14, .unset]) rfl ?_
      refine XS.aload X96.here hx rfl (hb hby at_266) rfl rfl ?_
      refine XS.aload X96.here hx rfl (hb hby at_268) rfl rfl ?_
      refine st97 _ ?_
      refine XS.ifYes X97.here hx rfl (pc0 := 273) (pc' := 278) rfl (hb hby at_273) rfl (XT.i0_ne_t (by decide)) (by decide) (by decide) ?_
      refine XS.aload X97.here hx rfl (hb hby at_278) rfl rfl ?_
      show Steps p.tables e below (T97.setTop (mkF m 280 #[iv p0, iv p1, iv p2, iv p3, iv (((1 : Int32) + (1 : Int32))), iv (0 : Int32), iv (0 : Int32), rv b3, rv b14, rv b33, rv b61, rv b76, rv b3, rv b14, .unset] [(.ref b76)])) _
      refine st100 _ ?_
      refine XS.iload X100.here hx rfl (hb hby at_283) rfl ?_
      refine XT.iconstV X100.here hx rfl (2 : Int32) (hb hby at_285) (by decide) ?_
      refine XS.icmpYes X100.here hx rfl (pc0 := 286) (pc' := 293) rfl (hb hby at_286) rfl (XT.ii_le_t (by decide)) (by decide) (by decide) ?_
      refine XT.iconstV X100.here hx rfl (0 : Int32) (hb hby at_293) (by decide) ?_
      refine XS.icmpYes X100.here hx rfl (pc0 := 294) (pc' := 299) rfl (hb hby at_294) rfl (XT.ii_eq_t (by decide)) (by decide) (by decide) ?_
      show Steps p.tables e below (T100.setTop (mkF m 299 #[iv p0, iv p1, iv p2, iv p3, iv (((1 : Int32) + (1 : Int32))), iv (0 : Int32), iv (0 : Int32), rv b3, rv b14, rv b33, rv b61, rv b76, rv b3, rv b14, .unset] [])) _
      refine XS.iload X100.here hx rfl (hb hby at_299) rfl ?_
      refine XT.iconstV X100.here hx rfl (2 : Int32) (hb hby at_301) (by decide) ?_
      refine XS.icmpNo X100.here hx rfl (hb hby at_302) rfl (XT.ii_ne_f (by decide)) ?_
      refine XT.iconstV X100.here hx rfl (1 : Int32) (hb hby at_305) (by decide) ?_
      exact k)
    obtain ⟨fs, hr, hrun, hended, hW, hsame⟩ := X100.leave (v := some (.int (1 : Int32))) (fun h => by rw [Bd.returns] at h; cases h)
    refine ⟨_, _, pre0 _ (S102 _ ?_), hrun, hended, _, _, rfl, ?_, ReturnedEndW.of_narrow ⟨_, rfl⟩ hW (hsame.mono (by decide) (by decide))⟩
    · exact retN X100 hx (t := .boolean) Bd.returns (by simp) (hb hby at_306) hr
    · show Qrm0 Z p0 p1 p2 p3 wC h0 n0 _ T100.heap _
      rw [e100]
      exact ⟨rfl, N100⟩
  · obtain ⟨T103, h103, X103, e103, E103, A103, D103, -, st103⟩ := newO X0 hx hZ hown (hw _ (List.mem_of_getElem? (i := 1) rfl)) (hw _ (List.mem_of_getElem? (i := 2) rfl)) (hw _ (List.mem_of_getElem? (i := 3) rfl)) e0 (g := (mkF m 60 #[iv p0, iv p1, iv p2, iv p3, iv (((1 : Int32) + (1 : Int32))), iv (1 : Int32), iv (0 : Int32), .unset, .unset, .unset, .unset, .unset, .unset, .unset, .unset] [])) rfl (hb hby at_60) (by decide) (by decide)
    obtain ⟨b103, g103⟩ : ∃ z, z = h0.size := ⟨_, rfl⟩
    rw [← g103] at A103 D103 st103
    have ge_b103 : n0 ≤ b103 := Nat.le_trans Z0 (Nat.le_of_eq g103.symm)
    have sz_b103 : h0.size ≤ b103 := Nat.le_of_eq g103.symm
    have Z103 : n0 ≤ h103.size := Nat.le_trans Z0 E103.1
    have K103 : Keep h0 h103 [] := (Keep.refl h0 []).ext E103
    have F103_coder : Fld Z h103 b103 "java/lang/String" "coder" "B" (.int (0 : Int32)) := D103 (Or.inr (hw _ (List.mem_of_getElem? (i := 28) rfl))) (ty := .byte) (by decide)
    have F103_value : Fld Z h103 b103 "java/lang/String" "value" "[B" .null := D103 (Or.inr (hw _ (List.mem_of_getElem? (i := 30) rfl))) (ty := (.array .byte)) (by decide)
    obtain ⟨T104, h104, k104, X104, e104, E104, A104, st104⟩ := newP X103 hx hZ (hw _ (List.mem_of_getElem? (i := 4) rfl)) e103 (g := (mkF m 65 #[iv p0, iv p1, iv p2, iv p3, iv (((1 : Int32) + (1 : Int32))), iv (1 : Int32), iv (0 : Int32), .unset, .unset, .unset, .unset, .unset, .unset, .unset, .unset] [(.int (2 : Int32)), (.ref b103), (.ref b103)])) rfl (hb hby at_65) rfl (by decide) (cap := 2) (by decide) (by decide) (by decide) (by decide)
    obtain ⟨b104, g104⟩ : ∃ z, z = h103.size := ⟨_, rfl⟩
    rw [← g104] at A104 st104
    have ne_b103_b104 : b103 ≠ b104 := Nat.ne_of_lt (Nat.lt_of_lt_of_le A103.lt (Nat.le_of_eq g104.symm))
    have ge_b104 : n0 ≤ b104 := Nat.le_trans Z103 (Nat.le_of_eq g104.symm)
    have sz_b104 : h0.size ≤ b104 := Nat.le_trans K103.1 (Nat.le_of_eq g104.symm)
    have Z104 : n0 ≤ h104.size := Nat.le_trans Z103 E104.1
    have K104 : Keep h0 h104 [] := K103.ext E104
    have V104 : Arv Z h104 b104 k104 .char (2 : Int32) [(.int (0 : Int32)), (.int (0 : Int32))] (.int (0 : Int32)) := (Arv.new A104 (by decide)).pad (pad_rep [] (.int (0 : Int32)) 2)
    obtain ⟨cl105, Ar105, qk105, Sz105, Ng105, Hs105, Gs105⟩ := id V104
    have hin105 : ¬ ((0 : Int32) < 0 ∨ cl105.slots.size ≤ ((0 : Int32)).toNatClampNeg) := inb_of Sz105 ⟨by decide, by decide⟩
    obtain ⟨T106, h106, X106, e106, W106, st106⟩ := stC X104 hx hZ e104 Ar105 (j := (0 : Int32)) hin105 (g := (mkF m 75 #[iv p0, iv p1, iv p2, iv p3, iv (((1 : Int32) + (1 : Int32))), iv (1 : Int32), iv (0 : Int32), .unset, .unset, .unset, .unset, .unset, .unset, .unset, .unset] [(.int ((p0 &&& (255 : Int32))).toUInt32.toUInt16.toUInt32.toInt32), (.int (0 : Int32)), (.ref b104), (.ref b104), (.ref b103), (.ref b103)])) rfl rfl (hb hby at_75)
    have N106 := Fr.snoc X106 N0 ge_b104
    have Z106 : n0 ≤ h106.size := Nat.le_trans Z104 (Nat.le_of_eq W106.size.symm)
    have K106 : Keep h0 h106 [] := K104.wr W106 (Or.inr sz_b104)
    have V106 : Arv Z h106 b104 k104 .char (2 : Int32) [(.int (nar .char ((p0 &&& (255 : Int32))).toUInt32.toUInt16.toUInt32.toInt32)), (.int (0 : Int32))] (.int (0 : Int32)) := Arv.set Ar105 qk105 Sz105 Ng105 Hs105 Gs105 (fits_nar_char _) W106 0 rfl (Nat.le_of_ble_eq_true rfl)
    obtain ⟨cl107, Ar107, qk107, Sz107, Ng107, Hs107, Gs107⟩ := id V106
    have hin107 : ¬ ((1 : Int32) < 0 ∨ cl107.slots.size ≤ ((1 : Int32)).toNatClampNeg) := inb_of Sz107 ⟨by decide, by decide⟩
    obtain ⟨T108, h108, X108, e108, W108, st108⟩ := stC X106 hx hZ e106 Ar107 (j := (1 : Int32)) hin107 (g := (mkF m 80 #[iv p0, iv p1, iv p2, iv p3, iv (((1 : Int32) + (1 : Int32))), iv (1 : Int32), iv (0 : Int32), .unset, .unset, .unset, .unset, .unset, .unset, .unset, .unset] [(.int (97 : Int32)), (.int (1 : Int32)), (.ref b104), (.ref b104), (.ref b103), (.ref b103)])) rfl rfl (hb hby at_80)
    have N108 := Fr.snoc X108 N106 ge_b104
    have Z108 : n0 ≤ h108.size := Nat.le_trans Z106 (Nat.le_of_eq W108.size.symm)
    have K108 : Keep h0 h108 [] := K106.wr W108 (Or.inr sz_b104)
    have V108 : Arv Z h108 b104 k104 .char (2 : Int32) [(.int (nar .char ((p0 &&& (255 : Int32))).toUInt32.toUInt16.toUInt32.toInt32)), (.int (nar .char (97 : Int32)))] (.int (0 : Int32)) := Arv.set Ar107 qk107 Sz107 Ng107 Hs107 Gs107 (fits_nar_char _) W108 1 rfl (Nat.le_of_ble_eq_true rfl)
    have f109 := (((A103.ext E104).wr W106).wr W108)
    have f110 := (((F103_value.ext E104).other W106 (Or.inl ne_b103_b104)).other W108 (Or.inl ne_b103_b104))
    have f111 := (((F103_coder.ext E104).other W106 (Or.inl ne_b103_b104)).other W108 (Or.inl ne_b103_b104))
    have f112 := ((((hS.ext E103).ext E104).wr W106).wr W108)
    obtain ⟨_, T113, Lc113, X113, hQ113, st113⟩ := own_special (W := 1) (y := mN4) X108 hx hZ rfl hown (hw _ (List.mem_of_getElem? (i := 5) rfl)) (hw _ (List.mem_of_getElem? (i := 6) rfl)) (hw _ (List.mem_of_getElem? (i := 7) rfl)) (hw _ (List.mem_of_getElem? (i := 3) rfl)) (by decide) (rmSi2_2 l Z av0 hw [] b103 b104 k104 wC (nar .char ((p0 &&& (255 : Int32))).toUInt32.toUInt16.toUInt32.toInt32) (nar .char (97 : Int32)) h108 n0 Z108 f109 f110 f111 ge_b103 V108 f112 hw0 (own_ch p0) (by decide)) (by decide) (by decide) (g := (mkF m 81 #[iv p0, iv p1, iv p2, iv p3, iv (((1 : Int32) + (1 : Int32))), iv (1 : Int32), iv (0 : Int32), .unset, .unset, .unset, .unset, .unset, .unset, .unset, .unset] [(.ref b104), (.ref b103), (.ref b103)])) rfl (by rw [hml]; rfl) (a := b103) (argsL := [(.ref b104)]) (rest := [(.ref b103)]) (lenOf pd__C_V rfl) rfl (by show 2 * 0 + _ ≤ _; exact Nat.le_of_eq rfl) (hb hby at_81) rfl e108 (by decide : 2 + 1 ≤ _) (by decide : 6 + 2 ≤ _)
    obtain ⟨rfl, N113q, K113, FC113, b113, kb113, FV113, V113, gb113⟩ := hQ113
    have N113 := Fr.app N108 N113q
    have e113 : T113.heap = T113.heap := rfl
    have ne_b103_b113 : b103 ≠ b113 := Nat.ne_of_lt (Nat.lt_of_lt_of_le f109.lt gb113)
    have ne_b104_b113 : b104 ≠ b113 := Nat.ne_of_lt (Nat.lt_of_lt_of_le V108.lt gb113)
    have ge_b113 : n0 ≤ b113 := Nat.le_trans Z108 gb113
    have sz_b113 : h0.size ≤ b113 := Nat.le_trans K108.1 gb113
    have Zk113 : n0 ≤ T113.heap.size := Nat.le_trans Z108 K113.1
    have Kk113 : Keep h0 T113.heap [] := K108.trans K113 (allS (Or.inr sz_b103) all0)
    obtain ⟨T114, h114, X114, e114, E114, A114, D114, -, st114⟩ := newO X113 hx hZ hown (hw _ (List.mem_of_getElem? (i := 1) rfl)) (hw _ (List.mem_of_getElem? (i := 2) rfl)) (hw _ (List.mem_of_getElem? (i := 3) rfl)) e113 (g := (mkF m 86 #[iv p0, iv p1, iv p2, iv p3, iv (((1 : Int32) + (1 : Int32))), iv (1 : Int32), iv (0 : Int32), rv b103, .unset, .unset, .unset, .unset, .unset, .unset, .unset] [])) rfl (hb hby at_86) (by decide) (by decide)
    obtain ⟨b114, g114⟩ : ∃ z, z = T113.heap.size := ⟨_, rfl⟩
    rw [← g114] at A114 D114 st114
    have f115 := (f109.keep K113)
    have ne_b103_b114 : b103 ≠ b114 := Nat.ne_of_lt (Nat.lt_of_lt_of_le f115.lt (Nat.le_of_eq g114.symm))
    have f116 := (V108.keep K113 (ninS (Ne.symm ne_b103_b104) nin0))
    have ne_b104_b114 : b104 ≠ b114 := Nat.ne_of_lt (Nat.lt_of_lt_of_le f116.lt (Nat.le_of_eq g114.symm))
    have ne_b113_b114 : b113 ≠ b114 := Nat.ne_of_lt (Nat.lt_of_lt_of_le V113.lt (Nat.le_of_eq g114.symm))
    have ge_b114 : n0 ≤ b114 := Nat.le_trans Zk113 (Nat.le_of_eq g114.symm)
    have sz_b114 : h0.size ≤ b114 := Nat.le_trans Kk113.1 (Nat.le_of_eq g114.symm)
    have Z114 : n0 ≤ h114.size := Nat.le_trans Zk113 E114.1
    have K114 : Keep h0 h114 [] := Kk113.ext E114
    have F114_coder : Fld Z h114 b114 "java/lang/String" "coder" "B" (.int (0 : Int32)) := D114 (Or.inr (hw _ (List.mem_of_getElem? (i := 28) rfl))) (ty := .byte) (by decide)
    have F114_value : Fld Z h114 b114 "java/lang/String" "value" "[B" .null := D114 (Or.inr (hw _ (List.mem_of_getElem? (i := 30) rfl))) (ty := (.array .byte)) (by decide)
    obtain ⟨T117, h117, k117, X117, e117, E117, A117, st117⟩ := newP X114 hx hZ (hw _ (List.mem_of_getElem? (i := 4) rfl)) e114 (g := (mkF m 91 #[iv p0, iv p1, iv p2, iv p3, iv (((1 : Int32) + (1 : Int32))), iv (1 : Int32), iv (0 : Int32), rv b103, .unset, .unset, .unset, .unset, .unset, .unset, .unset] [(.int (2 : Int32)), (.ref b114), (.ref b114)])) rfl (hb hby at_91) rfl (by decide) (cap := 2) (by decide) (by decide) (by decide) (by decide)
    obtain ⟨b117, g117⟩ : ∃ z, z = h114.size := ⟨_, rfl⟩
    rw [← g117] at A117 st117
    have f118 := (f115.ext E114)
    have ne_b103_b117 : b103 ≠ b117 := Nat.ne_of_lt (Nat.lt_of_lt_of_le f118.lt (Nat.le_of_eq g117.symm))
    have f119 := (f116.ext E114)
    have ne_b104_b117 : b104 ≠ b117 := Nat.ne_of_lt (Nat.lt_of_lt_of_le f119.lt (Nat.le_of_eq g117.symm))
    have f120 := (V113.ext E114)
    have ne_b113_b117 : b113 ≠ b117 := Nat.ne_of_lt (Nat.lt_of_lt_of_le f120.lt (Nat.le_of_eq g117.symm))
    have ne_b114_b117 : b114 ≠ b117 := Nat.ne_of_lt (Nat.lt_of_lt_of_le A114.lt (Nat.le_of_eq g117.symm))
    have ge_b117 : n0 ≤ b117 := Nat.le_trans Z114 (Nat.le_of_eq g117.symm)
    have sz_b117 : h0.size ≤ b117 := Nat.le_trans K114.1 (Nat.le_of_eq g117.symm)
    have Z117 : n0 ≤ h117.size := Nat.le_trans Z114 E117.1
    have K117 : Keep h0 h117 [] := K114.ext E117
    have V117 : Arv Z h117 b117 k117 .char (2 : Int32) [(.int (0 : Int32)), (.int (0 : Int32))] (.int (0 : Int32)) := (Arv.new A117 (by decide)).pad (pad_rep [] (.int (0 : Int32)) 2)
    obtain ⟨cl121, Ar121, qk121, Sz121, Ng121, Hs121, Gs121⟩ := id V117
    have hin121 : ¬ ((0 : Int32) < 0 ∨ cl121.slots.size ≤ ((0 : Int32)).toNatClampNeg) := inb_of Sz121 ⟨by decide, by decide⟩
    obtain ⟨T122, h122, X122, e122, W122, st122⟩ := stC X117 hx hZ e117 Ar121 (j := (0 : Int32)) hin121 (g := (mkF m 101 #[iv p0, iv p1, iv p2, iv p3, iv (((1 : Int32) + (1 : Int32))), iv (1 : Int32), iv (0 : Int32), rv b103, .unset, .unset, .unset, .unset, .unset, .unset, .unset] [(.int ((p1 &&& (255 : Int32))).toUInt32.toUInt16.toUInt32.toInt32), (.int (0 : Int32)), (.ref b117), (.ref b117), (.ref b114), (.ref b114)])) rfl rfl (hb hby at_101)
    have N122 := Fr.snoc X122 N113 ge_b117
    have Z122 : n0 ≤ h122.size := Nat.le_trans Z117 (Nat.le_of_eq W122.size.symm)
    have K122 : Keep h0 h122 [] := K117.wr W122 (Or.inr sz_b117)
    have V122 : Arv Z h122 b117 k117 .char (2 : Int32) [(.int (nar .char ((p1 &&& (255 : Int32))).toUInt32.toUInt16.toUInt32.toInt32)), (.int (0 : Int32))] (.int (0 : Int32)) := Arv.set Ar121 qk121 Sz121 Ng121 Hs121 Gs121 (fits_nar_char _) W122 0 rfl (Nat.le_of_ble_eq_true rfl)
    obtain ⟨cl123, Ar123, qk123, Sz123, Ng123, Hs123, Gs123⟩ := id V122
    have hin123 : ¬ ((1 : Int32) < 0 ∨ cl123.slots.size ≤ ((1 : Int32)).toNatClampNeg) := inb_of Sz123 ⟨by decide, by decide⟩
    obtain ⟨T124, h124, X124, e124, W124, st124⟩ := stC X122 hx hZ e122 Ar123 (j := (1 : Int32)) hin123 (g := (mkF m 106 #[iv p0, iv p1, iv p2, iv p3, iv (((1 : Int32) + (1 : Int32))), iv (1 : Int32), iv (0 : Int32), rv b103, .unset, .unset, .unset, .unset, .unset, .unset, .unset] [(.int (98 : Int32)), (.int (1 : Int32)), (.ref b117), (.ref b117), (.ref b114), (.ref b114)])) rfl rfl (hb hby at_106)
    have N124 := Fr.snoc X124 N122 ge_b117
    have Z124 : n0 ≤ h124.size := Nat.le_trans Z122 (Nat.le_of_eq W124.size.symm)
    have K124 : Keep h0 h124 [] := K122.wr W124 (Or.inr sz_b117)
    have V124 : Arv Z h124 b117 k117 .char (2 : Int32) [(.int (nar .char ((p1 &&& (255 : Int32))).toUInt32.toUInt16.toUInt32.toInt32)), (.int (nar .char (98 : Int32)))] (.int (0 : Int32)) := Arv.set Ar123 qk123 Sz123 Ng123 Hs123 Gs123 (fits_nar_char _) W124 1 rfl (Nat.le_of_ble_eq_true rfl)
    have f125 := (((A114.ext E117).wr W122).wr W124)
    have f126 := (((F114_value.ext E117).other W122 (Or.inl ne_b114_b117)).other W124 (Or.inl ne_b114_b117))
    have f127 := (((F114_coder.ext E117).other W122 (Or.inl ne_b114_b117)).other W124 (Or.inl ne_b114_b117))
    have f128 := (((((own_stak f112 K113 (allS (own_exns f109) all0)).ext E114).ext E117).wr W122).wr W124)
    obtain ⟨_, T129, Lc129, X129, hQ129, st129⟩ := own_special (W := 1) (y := mN4) X124 hx hZ rfl hown (hw _ (List.mem_of_getElem? (i := 5) rfl)) (hw _ (List.mem_of_getElem? (i := 6) rfl)) (hw _ (List.mem_of_getElem? (i := 7) rfl)) (hw _ (List.mem_of_getElem? (i := 3) rfl)) (by decide) (rmSi2_2 l Z av0 hw [] b114 b117 k117 wC (nar .char ((p1 &&& (255 : Int32))).toUInt32.toUInt16.toUInt32.toInt32) (nar .char (98 : Int32)) h124 n0 Z124 f125 f126 f127 ge_b114 V124 f128 hw0 (own_ch p1) (by decide)) (by decide) (by decide) (g := (mkF m 107 #[iv p0, iv p1, iv p2, iv p3, iv (((1 : Int32) + (1 : Int32))), iv (1 : Int32), iv (0 : Int32), rv b103, .unset, .unset, .unset, .unset, .unset, .unset, .unset] [(.ref b117), (.ref b114), (.ref b114)])) rfl (by rw [hml]; rfl) (a := b114) (argsL := [(.ref b117)]) (rest := [(.ref b114)]) (lenOf pd__C_V rfl) rfl (by show 2 * 0 + _ ≤ _; exact Nat.le_of_eq rfl) (hb hby at_107) rfl e124 (by decide : 5 + 1 ≤ _) (by decide : 14 + 2 ≤ _)
    obtain ⟨rfl, N129q, K129, FC129, b129, kb129, FV129, V129, gb129⟩ := hQ129
    have N129 := Fr.app N124 N129q
    have e129 : T129.heap = T129.heap := rfl
    have f130 := (((f118.ext E117).wr W122).wr W124)
    have ne_b103_b129 : b103 ≠ b129 := Nat.ne_of_lt (Nat.lt_of_lt_of_le f130.lt gb129)
    have f131 := (((f119.ext E117).other W122 ne_b104_b117).other W124 ne_b104_b117)
    have ne_b104_b129 : b104 ≠ b129 := Nat.ne_of_lt (Nat.lt_of_lt_of_le f131.lt gb129)
    have f132 := (((f120.ext E117).other W122 ne_b113_b117).other W124 ne_b113_b117)
    have ne_b113_b129 : b113 ≠ b129 := Nat.ne_of_lt (Nat.lt_of_lt_of_le f132.lt gb129)
    have ne_b114_b129 : b114 ≠ b129 := Nat.ne_of_lt (Nat.lt_of_lt_of_le f125.lt gb129)
    have ne_b117_b129 : b117 ≠ b129 := Nat.ne_of_lt (Nat.lt_of_lt_of_le V124.lt gb129)
    have ge_b129 : n0 ≤ b129 := Nat.le_trans Z124 gb129
    have sz_b129 : h0.size ≤ b129 := Nat.le_trans K124.1 gb129
    have Zk129 : n0 ≤ T129.heap.size := Nat.le_trans Z124 K129.1
    have Kk129 : Keep h0 T129.heap [] := K124.trans K129 (allS (Or.inr sz_b114) all0)
    obtain ⟨T133, h133, X133, e133, E133, A133, D133, -, st133⟩ := newO X129 hx hZ hown (hw _ (List.mem_of_getElem? (i := 1) rfl)) (hw _ (List.mem_of_getElem? (i := 2) rfl)) (hw _ (List.mem_of_getElem? (i := 3) rfl)) e129 (g := (mkF m 112 #[iv p0, iv p1, iv p2, iv p3, iv (((1 : Int32) + (1 : Int32))), iv (1 : Int32), iv (0 : Int32), rv b103, rv b114, .unset, .unset, .unset, .unset, .unset, .unset] [])) rfl (hb hby at_112) (by decide) (by decide)
    obtain ⟨b133, g133⟩ : ∃ z, z = T129.heap.size := ⟨_, rfl⟩
    rw [← g133] at A133 D133 st133
    have f134 := (f130.keep K129)
    have ne_b103_b133 : b103 ≠ b133 := Nat.ne_of_lt (Nat.lt_of_lt_of_le f134.lt (Nat.le_of_eq g133.symm))
    have f135 := (f131.keep K129 (ninS ne_b104_b114 nin0))
    have ne_b104_b133 : b104 ≠ b133 := Nat.ne_of_lt (Nat.lt_of_lt_of_le f135.lt (Nat.le_of_eq g133.symm))
    have f136 := (f132.keep K129 (ninS ne_b113_b114 nin0))
    have ne_b113_b133 : b113 ≠ b133 := Nat.ne_of_lt (Nat.lt_of_lt_of_le f136.lt (Nat.le_of_eq g133.symm))
    have f137 := (f125.keep K129)
    have ne_b114_b133 : b114 ≠ b133 := Nat.ne_of_lt (Nat.lt_of_lt_of_le f137.lt (Nat.le_of_eq g133.symm))
    have f138 := (V124.keep K129 (ninS (Ne.symm ne_b114_b117) nin0))
    have ne_b117_b133 : b117 ≠ b133 := Nat.ne_of_lt (Nat.lt_of_lt_of_le f138.lt (Nat.le_of_eq g133.symm))
    have ne_b129_b133 : b129 ≠ b133 := Nat.ne_of_lt (Nat.lt_of_lt_of_le V129.lt (Nat.le_of_eq g133.symm))
    have ge_b133 : n0 ≤ b133 := Nat.le_trans Zk129 (Nat.le_of_eq g133.symm)
    have sz_b133 : h0.size ≤ b133 := Nat.le_trans Kk129.1 (Nat.le_of_eq g133.symm)
    have Z133 : n0 ≤ h133.size := Nat.le_trans Zk129 E133.1
    have K133 : Keep h0 h133 [] := Kk129.ext E133
    have F133_coder : Fld Z h133 b133 "java/lang/String" "coder" "B" (.int (0 : Int32)) := D133 (Or.inr (hw _ (List.mem_of_getElem? (i := 28) rfl))) (ty := .byte) (by decide)
    have F133_value : Fld Z h133 b133 "java/lang/String" "value" "[B" .null := D133 (Or.inr (hw _ (List.mem_of_getElem? (i := 30) rfl))) (ty := (.array .byte)) (by decide)
    obtain ⟨T139, h139, k139, X139, e139, E139, A139, st139⟩ := newP X133 hx hZ (hw _ (List.mem_of_getElem? (i := 4) rfl)) e133 (g := (mkF m 117 #[iv p0, iv p1, iv p2, iv p3, iv (((1 : Int32) + (1 : Int32))), iv (1 : Int32), iv (0 : Int32), rv b103, rv b114, .unset, .unset, .unset, .unset, .unset, .unset] [(.int (2 : Int32)), (.ref b133), (.ref b133)])) rfl (hb hby at_117) rfl (by decide) (cap := 2) (by decide) (by decide) (by decide) (by decide)
    obtain ⟨b139, g139⟩ : ∃ z, z = h133.size := ⟨_, rfl⟩
    rw [← g139] at A139 st139
    have f140 := (f134.ext E133)
    have ne_b103_b139 : b103 ≠ b139 := Nat.ne_of_lt (Nat.lt_of_lt_of_le f140.lt (Nat.le_of_eq g139.symm))
    have f141 := (f135.ext E133)
    have ne_b104_b139 : b104 ≠ b139 := Nat.ne_of_lt (Nat.lt_of_lt_of_le f141.lt (Nat.le_of_eq g139.symm))
    have f142 := (f136.ext E133)
    have ne_b113_b139 : b113 ≠ b139 := Nat.ne_of_lt (Nat.lt_of_lt_of_le f142.lt (Nat.le_of_eq g139.symm))
    have f143 := (f137.ext E133)
    have ne_b114_b139 : b114 ≠ b139 := Nat.ne_of_lt (Nat.lt_of_lt_of_le f143.lt (Nat.le_of_eq g139.symm))
    have f144 := (f138.ext E133)
    have ne_b117_b139 : b117 ≠ b139 := Nat.ne_of_lt (Nat.lt_of_lt_of_le f144.lt (Nat.le_of_eq g139.symm))
    have f145 := (V129.ext E133)
    have ne_b129_b139 : b129 ≠ b139 := Nat.ne_of_lt (Nat.lt_of_lt_of_le f145.lt (Nat.le_of_eq g139.symm))
    have ne_b133_b139 : b133 ≠ b139 := Nat.ne_of_lt (Nat.lt_of_lt_of_le A133.lt (Nat.le_of_eq g139.symm))
    have ge_b139 : n0 ≤ b139 := Nat.le_trans Z133 (Nat.le_of_eq g139.symm)
    have sz_b139 : h0.size ≤ b139 := Nat.le_trans K133.1 (Nat.le_of_eq g139.symm)
    have Z139 : n0 ≤ h139.size := Nat.le_trans Z133 E139.1
    have K139 : Keep h0 h139 [] := K133.ext E139
    have V139 : Arv Z h139 b139 k139 .char (2 : Int32) [(.int (0 : Int32)), (.int (0 : Int32))] (.int (0 : Int32)) := (Arv.new A139 (by decide)).pad (pad_rep [] (.int (0 : Int32)) 2)
    obtain ⟨cl146, Ar146, qk146, Sz146, Ng146, Hs146, Gs146⟩ := id V139
    have hin146 : ¬ ((0 : Int32) < 0 ∨ cl146.slots.size ≤ ((0 : Int32)).toNatClampNeg) := inb_of Sz146 ⟨by decide, by decide⟩
    obtain ⟨T147, h147, X147, e147, W147, st147⟩ := stC X139 hx hZ e139 Ar146 (j := (0 : Int32)) hin146 (g := (mkF m 127 #[iv p0, iv p1, iv p2, iv p3, iv (((1 : Int32) + (1 : Int32))), iv (1 : Int32), iv (0 : Int32), rv b103, rv b114, .unset, .unset, .unset, .unset, .unset, .unset] [(.int ((p2 &&& (255 : Int32))).toUInt32.toUInt16.toUInt32.toInt32), (.int (0 : Int32)), (.ref b139), (.ref b139), (.ref b133), (.ref b133)])) rfl rfl (hb hby at_127)
    have N147 := Fr.snoc X147 N129 ge_b139
    have Z147 : n0 ≤ h147.size := Nat.le_trans Z139 (Nat.le_of_eq W147.size.symm)
    have K147 : Keep h0 h147 [] := K139.wr W147 (Or.inr sz_b139)
    have V147 : Arv Z h147 b139 k139 .char (2 : Int32) [(.int (nar .char ((p2 &&& (255 : Int32))).toUInt32.toUInt16.toUInt32.toInt32)), (.int (0 : Int32))] (.int (0 : Int32)) := Arv.set Ar146 qk146 Sz146 Ng146 Hs146 Gs146 (fits_nar_char _) W147 0 rfl (Nat.le_of_ble_eq_true rfl)
    obtain ⟨cl148, Ar148, qk148, Sz148, Ng148, Hs148, Gs148⟩ := id V147
    have hin148 : ¬ ((1 : Int32) < 0 ∨ cl148.slots.size ≤ ((1 : Int32)).toNatClampNeg) := inb_of Sz148 ⟨by decide, by decide⟩
    obtain ⟨T149, h149, X149, e149, W149, st149⟩ := stC X147 hx hZ e147 Ar148 (j := (1 : Int32)) hin148 (g := (mkF m 132 #[iv p0, iv p1, iv p2, iv p3, iv (((1 : Int32) + (1 : Int32))), iv (1 : Int32), iv (0 : Int32), rv b103, rv b114, .unset, .unset, .unset, .unset, .unset, .unset] [(.int (99 : Int32)), (.int (1 : Int32)), (.ref b139), (.ref b139), (.ref b133), (.ref b133)])) rfl rfl (hb hby at_132)
    have N149 := Fr.snoc X149 N147 ge_b139
    have Z149 : n0 ≤ h149.size := Nat.le_trans Z147 (Nat.le_of_eq W149.size.symm)
    have K149 : Keep h0 h149 [] := K147.wr W149 (Or.inr sz_b139)
    have V149 : Arv Z h149 b139 k139 .char (2 : Int32) [(.int (nar .char ((p2 &&& (255 : Int32))).toUInt32.toUInt16.toUInt32.toInt32)), (.int (nar .char (99 : Int32)))] (.int (0 : Int32)) := Arv.set Ar148 qk148 Sz148 Ng148 Hs148 Gs148 (fits_nar_char _) W149 1 rfl (Nat.le_of_ble_eq_true rfl)
    have f150 := (((A133.ext E139).wr W147).wr W149)
    have f151 := (((F133_value.ext E139).other W147 (Or.inl ne_b133_b139)).other W149 (Or.inl ne_b133_b139))
    have f152 := (((F133_coder.ext E139).other W147 (Or.inl ne_b133_b139)).other W149 (Or.inl ne_b133_b139))
    have f153 := (((((own_stak f128 K129 (allS (own_exns f125) all0)).ext E133).ext E139).wr W147).wr W149)
    obtain ⟨_, T154, Lc154, X154, hQ154, st154⟩ := own_special (W := 1) (y := mN4) X149 hx hZ rfl hown (hw _ (List.mem_of_getElem? (i := 5) rfl)) (hw _ (List.mem_of_getElem? (i := 6) rfl)) (hw _ (List.mem_of_getElem? (i := 7) rfl)) (hw _ (List.mem_of_getElem? (i := 3) rfl)) (by decide) (rmSi2_2 l Z av0 hw [] b133 b139 k139 wC (nar .char ((p2 &&& (255 : Int32))).toUInt32.toUInt16.toUInt32.toInt32) (nar .char (99 : Int32)) h149 n0 Z149 f150 f151 f152 ge_b133 V149 f153 hw0 (own_ch p2) (by decide)) (by decide) (by decide) (g := (mkF m 133 #[iv p0, iv p1, iv p2, iv p3, iv (((1 : Int32) + (1 : Int32))), iv (1 : Int32), iv (0 : Int32), rv b103, rv b114, .unset, .unset, .unset, .unset, .unset, .unset] [(.ref b139), (.ref b133), (.ref b133)])) rfl (by rw [hml]; rfl) (a := b133) (argsL := [(.ref b139)]) (rest := [(.ref b133)]) (lenOf pd__C_V rfl) rfl (by show 2 * 0 + _ ≤ _; exact Nat.le_of_eq rfl) (hb hby at_133) rfl e149 (by decide : 8 + 1 ≤ _) (by decide : 22 + 2 ≤ _)
    obtain ⟨rfl, N154q, K154, FC154, b154, kb154, FV154, V154, gb154⟩ := hQ154
    have N154 := Fr.app N149 N154q
    have e154 : T154.heap = T154.heap := rfl
    have f155 := (((f140.ext E139).wr W147).wr W149)
    have ne_b103_b154 : b103 ≠ b154 := Nat.ne_of_lt (Nat.lt_of_lt_of_le f155.lt gb154)
    have f156 := (((f141.ext E139).other W147 ne_b104_b139).other W149 ne_b104_b139)
    have ne_b104_b154 : b104 ≠ b154 := Nat.ne_of_lt (Nat.lt_of_lt_of_le f156.lt gb154)
    have f157 := (((f142.ext E139).other W147 ne_b113_b139).other W149 ne_b113_b139)
    have ne_b113_b154 : b113 ≠ b154 := Nat.ne_of_lt (Nat.lt_of_lt_of_le f157.lt gb154)
    have f158 := (((f143.ext E139).wr W147).wr W149)
    have ne_b114_b154 : b114 ≠ b154 := Nat.ne_of_lt (Nat.lt_of_lt_of_le f158.lt gb154)
    have f159 := (((f144.ext E139).other W147 ne_b117_b139).other W149 ne_b117_b139)
    have ne_b117_b154 : b117 ≠ b154 := Nat.ne_of_lt (Nat.lt_of_lt_of_le f159.lt gb154)
    have f160 := (((f145.ext E139).other W147 ne_b129_b139).other W149 ne_b129_b139)
    have ne_b129_b154 : b129 ≠ b154 := Nat.ne_of_lt (Nat.lt_of_lt_of_le f160.lt gb154)
    have ne_b133_b154 : b133 ≠ b154 := Nat.ne_of_lt (Nat.lt_of_lt_of_le f150.lt gb154)
    have ne_b139_b154 : b139 ≠ b154 := Nat.ne_of_lt (Nat.lt_of_lt_of_le V149.lt gb154)
    have ge_b154 : n0 ≤ b154 := Nat.le_trans Z149 gb154
    have sz_b154 : h0.size ≤ b154 := Nat.le_trans K149.1 gb154
    have Zk154 : n0 ≤ T154.heap.size := Nat.le_trans Z149 K154.1
    have Kk154 : Keep h0 T154.heap [] := K149.trans K154 (allS (Or.inr sz_b133) all0)
    obtain ⟨T161, h161, k161, X161, e161, E161, A161, O161, st161⟩ := newR X154 hx hZ hown (hw _ (List.mem_of_getElem? (i := 1) rfl)) (hw _ (List.mem_of_getElem? (i := 31) rfl)) e154 (g := (mkF m 140 #[iv p0, iv p1, iv p2, iv p3, iv (((1 : Int32) + (1 : Int32))), iv (1 : Int32), iv (0 : Int32), rv b103, rv b114, rv b133, .unset, .unset, .unset, .unset, .unset] [(.int ((1 : Int32) + (1 : Int32)))])) rfl (hb hby at_140) rfl (by decide) (cap := 2) (by decide) (by decide) (by decide) (by decide)
    obtain ⟨b161, g161⟩ : ∃ z, z = T154.heap.size := ⟨_, rfl⟩
    rw [← g161] at A161 st161
    have f162 := (f155.keep K154)
    have ne_b103_b161 : b103 ≠ b161 := Nat.ne_of_lt (Nat.lt_of_lt_of_le f162.lt (Nat.le_of_eq g161.symm))
    have f163 := (f156.keep K154 (ninS ne_b104_b133 nin0))
    have ne_b104_b161 : b104 ≠ b161 := Nat.ne_of_lt (Nat.lt_of_lt_of_le f163.lt (Nat.le_of_eq g161.symm))
    have f164 := (f157.keep K154 (ninS ne_b113_b133 nin0))
    have ne_b113_b161 : b113 ≠ b161 := Nat.ne_of_lt (Nat.lt_of_lt_of_le f164.lt (Nat.le_of_eq g161.symm))
    have f165 := (f158.keep K154)
    have ne_b114_b161 : b114 ≠ b161 := Nat.ne_of_lt (Nat.lt_of_lt_of_le f165.lt (Nat.le_of_eq g161.symm))
    have f166 := (f159.keep K154 (ninS ne_b117_b133 nin0))
    have ne_b117_b161 : b117 ≠ b161 := Nat.ne_of_lt (Nat.lt_of_lt_of_le f166.lt (Nat.le_of_eq g161.symm))
    have f167 := (f160.keep K154 (ninS ne_b129_b133 nin0))
    have ne_b129_b161 : b129 ≠ b161 := Nat.ne_of_lt (Nat.lt_of_lt_of_le f167.lt (Nat.le_of_eq g161.symm))
    have f168 := (f150.keep K154)
    have ne_b133_b161 : b133 ≠ b161 := Nat.ne_of_lt (Nat.lt_of_lt_of_le f168.lt (Nat.le_of_eq g161.symm))
    have f169 := (V149.keep K154 (ninS (Ne.symm ne_b133_b139) nin0))
    have ne_b139_b161 : b139 ≠ b161 := Nat.ne_of_lt (Nat.lt_of_lt_of_le f169.lt (Nat.le_of_eq g161.symm))
    have ne_b154_b161 : b154 ≠ b161 := Nat.ne_of_lt (Nat.lt_of_lt_of_le V154.lt (Nat.le_of_eq g161.symm))
    have ge_b161 : n0 ≤ b161 := Nat.le_trans Zk154 (Nat.le_of_eq g161.symm)
    have sz_b161 : h0.size ≤ b161 := Nat.le_trans Kk154.1 (Nat.le_of_eq g161.symm)
    have Z161 : n0 ≤ h161.size := Nat.le_trans Zk154 E161.1
    have K161 : Keep h0 h161 [] := Kk154.ext E161
    have V161 : Arv Z h161 b161 k161 (.object "java/lang/String") ((1 : Int32) + (1 : Int32)) [.null, .null] .null := (Arv.new A161 (by decide)).pad (pad_rep [] .null 2)
    obtain ⟨cl170, Ar170, qk170, Sz170, Ng170, Hs170, Gs170⟩ := id V161
    have hin170 : ¬ ((0 : Int32) < 0 ∨ cl170.slots.size ≤ ((0 : Int32)).toNatClampNeg) := inb_of Sz170 ⟨by decide, by decide⟩
    have f171 := (f162.ext E161)
    obtain ⟨T172, h172, X172, e172, W172, st172⟩ := stR X161 hx hZ e161 Ar170 (j := (0 : Int32)) hin170 rfl (Sto.ofV Ar170 qk170 O161 (Ins.self f171)) (g := (mkF m 150 #[iv p0, iv p1, iv p2, iv p3, iv (((1 : Int32) + (1 : Int32))), iv (1 : Int32), iv (0 : Int32), rv b103, rv b114, rv b133, rv b161, .unset, .unset, .unset, .unset] [(.ref b103), (.int (0 : Int32)), (.ref b161)])) rfl rfl (hb hby at_150)
    have N172 := Fr.snoc X172 N154 ge_b161
    have Z172 : n0 ≤ h172.size := Nat.le_trans Z161 (Nat.le_of_eq W172.size.symm)
    have K172 : Keep h0 h172 [] := K161.wr W172 (Or.inr sz_b161)
    have V172 : Arv Z h172 b161 k161 (.object "java/lang/String") ((1 : Int32) + (1 : Int32)) [(.ref b103), .null] .null := Arv.set Ar170 qk170 Sz170 Ng170 Hs170 Gs170 rfl W172 0 rfl (Nat.le_of_ble_eq_true rfl)
    obtain ⟨cl173, Ar173, qk173, Sz173, Ng173, Hs173, Gs173⟩ := id V172
    have hin173 : ¬ ((1 : Int32) < 0 ∨ cl173.slots.size ≤ ((1 : Int32)).toNatClampNeg) := inb_of Sz173 ⟨by decide, by decide⟩
    have f174 := ((f165.ext E161).wr W172)
    obtain ⟨T175, h175, X175, e175, W175, st175⟩ := stR X172 hx hZ e172 Ar173 (j := (1 : Int32)) hin173 rfl (Sto.ofV Ar173 qk173 O161 (Ins.self f174)) (g := (mkF m 162 #[iv p0, iv p1, iv p2, iv p3, iv (((1 : Int32) + (1 : Int32))), iv (1 : Int32), iv (0 : Int32), rv b103, rv b114, rv b133, rv b161, .unset, .unset, .unset, .unset] [(.ref b114), (.int (1 : Int32)), (.ref b161)])) rfl rfl (hb hby at_162)
    have N175 := Fr.snoc X175 N172 ge_b161
    have Z175 : n0 ≤ h175.size := Nat.le_trans Z172 (Nat.le_of_eq W175.size.symm)
    have K175 : Keep h0 h175 [] := K172.wr W175 (Or.inr sz_b161)
    have V175 : Arv Z h175 b161 k161 (.object "java/lang/String") ((1 : Int32) + (1 : Int32)) [(.ref b103), (.ref b114)] .null := Arv.set Ar173 qk173 Sz173 Ng173 Hs173 Gs173 rfl W175 1 rfl (Nat.le_of_ble_eq_true rfl)
    obtain ⟨T176, h176, X176, e176, E176, A176, D176, -, st176⟩ := newO X175 hx hZ hown (hw _ (List.mem_of_getElem? (i := 32) rfl)) (hw _ (List.mem_of_getElem? (i := 33) rfl)) (hw _ (List.mem_of_getElem? (i := 34) rfl)) e175 (g := (mkF m 175 #[iv p0, iv p1, iv p2, iv p3, iv (((1 : Int32) + (1 : Int32))), iv (1 : Int32), iv (0 : Int32), rv b103, rv b114, rv b133, rv b161, .unset, .unset, .unset, .unset] [])) rfl (hb hby at_175) (by decide) (by decide)
    obtain ⟨b176, g176⟩ : ∃ z, z = h175.size := ⟨_, rfl⟩
    rw [← g176] at A176 D176 st176
    have f177 := ((f171.wr W172).wr W175)
    have ne_b103_b176 : b103 ≠ b176 := Nat.ne_of_lt (Nat.lt_of_lt_of_le f177.lt (Nat.le_of_eq g176.symm))
    have f178 := (((f163.ext E161).other W172 ne_b104_b161).other W175 ne_b104_b161)
    have ne_b104_b176 : b104 ≠ b176 := Nat.ne_of_lt (Nat.lt_of_lt_of_le f178.lt (Nat.le_of_eq g176.symm))
    have f179 := (((f164.ext E161).other W172 ne_b113_b161).other W175 ne_b113_b161)
    have ne_b113_b176 : b113 ≠ b176 := Nat.ne_of_lt (Nat.lt_of_lt_of_le f179.lt (Nat.le_of_eq g176.symm))
    have f180 := (f174.wr W175)
    have ne_b114_b176 : b114 ≠ b176 := Nat.ne_of_lt (Nat.lt_of_lt_of_le f180.lt (Nat.le_of_eq g176.symm))
    have f181 := (((f166.ext E161).other W172 ne_b117_b161).other W175 ne_b117_b161)
    have ne_b117_b176 : b117 ≠ b176 := Nat.ne_of_lt (Nat.lt_of_lt_of_le f181.lt (Nat.le_of_eq g176.symm))
    have f182 := (((f167.ext E161).other W172 ne_b129_b161).other W175 ne_b129_b161)
    have ne_b129_b176 : b129 ≠ b176 := Nat.ne_of_lt (Nat.lt_of_lt_of_le f182.lt (Nat.le_of_eq g176.symm))
    have f183 := (((f168.ext E161).wr W172).wr W175)
    have ne_b133_b176 : b133 ≠ b176 := Nat.ne_of_lt (Nat.lt_of_lt_of_le f183.lt (Nat.le_of_eq g176.symm))
    have f184 := (((f169.ext E161).other W172 ne_b139_b161).other W175 ne_b139_b161)
    have ne_b139_b176 : b139 ≠ b176 := Nat.ne_of_lt (Nat.lt_of_lt_of_le f184.lt (Nat.le_of_eq g176.symm))
    have f185 := (((V154.ext E161).other W172 ne_b154_b161).other W175 ne_b154_b161)
    have ne_b154_b176 : b154 ≠ b176 := Nat.ne_of_lt (Nat.lt_of_lt_of_le f185.lt (Nat.le_of_eq g176.symm))
    have ne_b161_b176 : b161 ≠ b176 := Nat.ne_of_lt (Nat.lt_of_lt_of_le V175.lt (Nat.le_of_eq g176.symm))
    have ge_b176 : n0 ≤ b176 := Nat.le_trans Z175 (Nat.le_of_eq g176.symm)
    have sz_b176 : h0.size ≤ b176 := Nat.le_trans K175.1 (Nat.le_of_eq g176.symm)
    have Z176 : n0 ≤ h176.size := Nat.le_trans Z175 E176.1
    have K176 : Keep h0 h176 [] := K175.ext E176
    have F176_arguments : Fld Z h176 b176 "com/example/steady_courier/steadycourier/OptionReader" "arguments" "[Ljava/lang/String;" .null := D176 (Or.inr (hw _ (List.mem_of_getElem? (i := 40) rfl))) (ty := (.array (.object "java/lang/String"))) (by decide)
    have F176_next : Fld Z h176 b176 "com/example/steady_courier/steadycourier/OptionReader" "next" "I" (.int (0 : Int32)) := D176 (Or.inl (hw _ (List.mem_of_getElem? (i := 47) rfl))) (ty := .int) (by decide)
    obtain ⟨_, T186, Lc186, X186, hQ186, st186⟩ := own_special (W := 1) (y := mN5) X176 hx hZ rfl hown (hw _ (List.mem_of_getElem? (i := 35) rfl)) (hw _ (List.mem_of_getElem? (i := 36) rfl)) (hw _ (List.mem_of_getElem? (i := 37) rfl)) (hw _ (List.mem_of_getElem? (i := 34) rfl)) (by decide) (rmInit l Z av0 hw [] b176 b161 h176 n0 Z176 A176 F176_arguments F176_next ge_b176) (by decide) (by decide) (g := (mkF m 181 #[iv p0, iv p1, iv p2, iv p3, iv (((1 : Int32) + (1 : Int32))), iv (1 : Int32), iv (0 : Int32), rv b103, rv b114, rv b133, rv b161, .unset, .unset, .unset, .unset] [(.ref b161), (.ref b176), (.ref b176)])) rfl (by rw [hml]; rfl) (a := b176) (argsL := [(.ref b161)]) (rest := [(.ref b176)]) (lenOf pd__Ljava_lang_String_V rfl) rfl (by show 2 * 0 + _ ≤ _; exact Nat.le_of_eq rfl) (hb hby at_181) rfl e176 (by decide : 11 + 0 ≤ _) (by decide : 28 + 0 ≤ _)
    obtain ⟨rfl, N186q, K186, FA186, FN186⟩ := hQ186
    have N186 := Fr.app N175 N186q
    have e186 : T186.heap = T186.heap := rfl
    have Zk186 : n0 ≤ T186.heap.size := Nat.le_trans Z176 K186.1
    have Kk186 : Keep h0 T186.heap [] := K176.trans K186 (allS (Or.inr sz_b176) all0)
    have f187 := ((V175.ext E176).keep K186 (ninS ne_b161_b176 nin0))
    have f189 := (A176.keep K186)
    obtain ⟨_, T188, Lc188, X188, hQ188, st188⟩ := own_virtual (W := 0) (y := mN6) (z := mN6) X186 hx hZ hown (hw _ (List.mem_of_getElem? (i := 41) rfl)) (hw _ (List.mem_of_getElem? (i := 42) rfl)) (notFace_of_selects (args := #[]) (mvT hZ (hw _ (List.mem_of_getElem? (i := 44) rfl)))) (hw _ (List.mem_of_getElem? (i := 44) rfl)) (hw _ (List.mem_of_getElem? (i := 43) rfl)) (hw _ (List.mem_of_getElem? (i := 45) rfl)) (hw _ (List.mem_of_getElem? (i := 34) rfl)) (by decide) (rmHas l Z av0 hw [] b176 b161 k161 ((1 : Int32) + (1 : Int32)) [(.ref b103), (.ref b114)] (0 : Int32) T186.heap n0 Zk186 FA186 FN186 f187) (by decide) (by decide) f189 (g := (mkF m 188 #[iv p0, iv p1, iv p2, iv p3, iv (((1 : Int32) + (1 : Int32))), iv (1 : Int32), iv (0 : Int32), rv b103, rv b114, rv b133, rv b161, rv b176, .unset, .unset, .unset] [(.ref b176)])) rfl (by rw [hml]; rfl) (argsL := []) (rest := []) (lenOf pd__Z rfl) rfl (by show 2 * 0 + _ ≤ _; exact Nat.le_of_eq rfl) (hb hby at_188) rfl e186 (by decide : 11 + 0 ≤ _) (by decide : 28 + 0 ≤ _)
    obtain ⟨rfl, N188q, hh188⟩ := hQ188
    have N188 := Fr.app N186 N188q
    have e188 : T188.heap = T186.heap := hh188
    obtain ⟨_, T190, Lc190, X190, hQ190, st190⟩ := own_virtual (W := 0) (y := mN7) (z := mN7) X188 hx hZ hown (hw _ (List.mem_of_getElem? (i := 48) rfl)) (hw _ (List.mem_of_getElem? (i := 49) rfl)) (notFace_of_selects (args := #[]) (mvT hZ (hw _ (List.mem_of_getElem? (i := 51) rfl)))) (hw _ (List.mem_of_getElem? (i := 51) rfl)) (hw _ (List.mem_of_getElem? (i := 50) rfl)) (hw _ (List.mem_of_getElem? (i := 52) rfl)) (hw _ (List.mem_of_getElem? (i := 34) rfl)) (by decide) (rmOpt l Z av0 hw [] b176 b161 k161 ((1 : Int32) + (1 : Int32)) [(.ref b103), (.ref b114)] (0 : Int32) b103 T186.heap n0 Zk186 FA186 FN186 f187 f189 ge_b176 (Ne.symm ne_b161_b176) (by decide) rfl) (by decide) (by decide) f189 (g := (mkF m 198 #[iv p0, iv p1, iv p2, iv p3, iv (((1 : Int32) + (1 : Int32))), iv (1 : Int32), iv (0 : Int32), rv b103, rv b114, rv b133, rv b161, rv b176, .unset, .unset, .unset] [(.ref b176)])) rfl (by rw [hml]; rfl) (argsL := []) (rest := []) (lenOf pd__Ljava_lang_String_ rfl) rfl (by show 2 * 0 + _ ≤ _; exact Nat.le_of_eq rfl) (hb hby at_198) rfl e188 (by decide : 11 + 0 ≤ _) (by decide : 28 + 0 ≤ _)
    obtain ⟨rfl, N190q, K190, FN190, FA190⟩ := hQ190
    have N190 := Fr.app N188 N190q
    have e190 : T190.heap = T190.heap := rfl
    have Zk190 : n0 ≤ T190.heap.size := Nat.le_trans Zk186 K190.1
    have Kk190 : Keep h0 T190.heap [] := Kk186.trans K190 (allS (Or.inr sz_b176) all0)
    have f192 := (((f177.ext E176).keep K186).keep K190)
    obtain ⟨_, T191, Lc191, X191, hQ191, st191⟩ := own_virtual (W := 0) (y := mN9) (z := mN9) X190 hx hZ hown (hw _ (List.mem_of_getElem? (i := 53) rfl)) (hw _ (List.mem_of_getElem? (i := 54) rfl)) (notFace_of_selects (args := #[]) (mvT hZ (hw _ (List.mem_of_getElem? (i := 56) rfl)))) (hw _ (List.mem_of_getElem? (i := 56) rfl)) (hw _ (List.mem_of_getElem? (i := 55) rfl)) (hw _ (List.mem_of_getElem? (i := 57) rfl)) (hw _ (List.mem_of_getElem? (i := 3) rfl)) (by decide) (rmSame l Z av0 hw [] b103 T190.heap n0 Zk190 ) (by decide) (by decide) f192 (g := (mkF m 207 #[iv p0, iv p1, iv p2, iv p3, iv (((1 : Int32) + (1 : Int32))), iv (1 : Int32), iv (0 : Int32), rv b103, rv b114, rv b133, rv b161, rv b176, rv b103, .unset, .unset] [(.ref b103), (.ref b103)])) rfl (by rw [hml]; rfl) (argsL := [(.ref b103)]) (rest := []) (lenOf pd__Ljava_lang_Object_Z rfl) rfl (by show 2 * 0 + _ ≤ _; exact Nat.le_of_eq rfl) (hb hby at_207) rfl e190 (by decide : 11 + 0 ≤ _) (by decide : 28 + 0 ≤ _)
    obtain ⟨rfl, N191q, hh191⟩ := hQ191
    have N191 := Fr.app N190 N191q
    have e191 : T191.heap = T190.heap := hh191
    have f193 := (f187.keep K190 (ninS ne_b161_b176 nin0))
    have f195 := (f189.keep K190)
    obtain ⟨_, T194, Lc194, X194, hQ194, st194⟩ := own_virtual (W := 0) (y := mN6) (z := mN6) X191 hx hZ hown (hw _ (List.mem_of_getElem? (i := 41) rfl)) (hw _ (List.mem_of_getElem? (i := 42) rfl)) (notFace_of_selects (args := #[]) (mvT hZ (hw _ (List.mem_of_getElem? (i := 44) rfl)))) (hw _ (List.mem_of_getElem? (i := 44) rfl)) (hw _ (List.mem_of_getElem? (i := 43) rfl)) (hw _ (List.mem_of_getElem? (i := 45) rfl)) (hw _ (List.mem_of_getElem? (i := 34) rfl)) (by decide) (rmHas l Z av0 hw [] b176 b161 k161 ((1 : Int32) + (1 : Int32)) [(.ref b103), (.ref b114)] ((0 : Int32) + (1 : Int32)) T190.heap n0 Zk190 FA190 FN190 f193) (by decide) (by decide) f195 (g := (mkF m 217 #[iv p0, iv p1, iv p2, iv p3, iv (((1 : Int32) + (1 : Int32))), iv (1 : Int32), iv (0 : Int32), rv b103, rv b114, rv b133, rv b161, rv b176, rv b103, .unset, .unset] [(.ref b176)])) rfl (by rw [hml]; rfl) (argsL := []) (rest := []) (lenOf pd__Z rfl) rfl (by show 2 * 0 + _ ≤ _; exact Nat.le_of_eq rfl) (hb hby at_217) rfl e191 (by decide : 11 + 0 ≤ _) (by decide : 28 + 0 ≤ _)
    obtain ⟨rfl, N194q, hh194⟩ := hQ194
    have N194 := Fr.app N191 N194q
    have e194 : T194.heap = T190.heap := hh194
    have f196 := (((((((((((FV129.ext E133).ext E139).other W147 (Or.inl ne_b114_b139)).other W149 (Or.inl ne_b114_b139)).keep K154 (ninS ne_b114_b133 nin0)).ext E161).other W172 (Or.inl ne_b114_b161)).other W175 (Or.inl ne_b114_b161)).ext E176).keep K186 (ninS ne_b114_b176 nin0)).keep K190 (ninS ne_b114_b176 nin0))
    have f197 := (((f182.ext E176).keep K186 (ninS ne_b129_b176 nin0)).keep K190 (ninS ne_b129_b176 nin0))
    have f198 := (((f180.ext E176).keep K186).keep K190)
    obtain ⟨_, T199, Lc199, X199, hQ199, st199⟩ := own_virtual (W := 0) (y := mN10) (z := mN10) X194 hx hZ hown (hw _ (List.mem_of_getElem? (i := 58) rfl)) (hw _ (List.mem_of_getElem? (i := 59) rfl)) (notFace_of_selects (args := #[]) (mvT hZ (hw _ (List.mem_of_getElem? (i := 61) rfl)))) (hw _ (List.mem_of_getElem? (i := 61) rfl)) (hw _ (List.mem_of_getElem? (i := 60) rfl)) (hw _ (List.mem_of_getElem? (i := 62) rfl)) (hw _ (List.mem_of_getElem? (i := 34) rfl)) (by decide) (rmVal l Z av0 hw [] b176 b161 k161 ((1 : Int32) + (1 : Int32)) [(.ref b103), (.ref b114)] ((0 : Int32) + (1 : Int32)) b114 b103 b129 kb129 (2 : Int32) [(.int (nar .byte ((nar .char ((p1 &&& (255 : Int32))).toUInt32.toUInt16.toUInt32.toInt32)).toInt8.toInt32)), (.int (nar .byte ((nar .char (98 : Int32))).toInt8.toInt32))] T190.heap n0 Zk190 FA190 FN190 f193 f195 ge_b176 (Ne.symm ne_b161_b176) (by decide) rfl f198 f196 f197 (by decide) (Ne.symm ne_b114_b176) (Ne.symm ne_b129_b176) (by decide)) (by decide) (by decide) f195 (g := (mkF m 253 #[iv p0, iv p1, iv p2, iv p3, iv (((1 : Int32) + (1 : Int32))), iv (1 : Int32), iv (0 : Int32), rv b103, rv b114, rv b133, rv b161, rv b176, rv b103, .unset, .unset] [(.ref b103), (.ref b176)])) rfl (by rw [hml]; rfl) (argsL := [(.ref b103)]) (rest := []) (lenOf pd__Ljava_lang_String_Ljava_lang_String_ rfl) rfl (by show 2 * 0 + _ ≤ _; exact Nat.le_of_eq rfl) (hb hby at_253) rfl e194 (by decide : 11 + 0 ≤ _) (by decide : 28 + 0 ≤ _)
    obtain ⟨rfl, N199q, K199, FN199, FA199⟩ := hQ199
    have N199 := Fr.app N194 N199q
    have e199 : T199.heap = T199.heap := rfl
    have Zk199 : n0 ≤ T199.heap.size := Nat.le_trans Zk190 K199.1
    have Kk199 : Keep h0 T199.heap [] := Kk190.trans K199 (allS (Or.inr sz_b176) all0)
    have f201 := (f198.keep K199)
    obtain ⟨_, T200, Lc200, X200, hQ200, st200⟩ := own_virtual (W := 0) (y := mN9) (z := mN9) X199 hx hZ hown (hw _ (List.mem_of_getElem? (i := 53) rfl)) (hw _ (List.mem_of_getElem? (i := 54) rfl)) (notFace_of_selects (args := #[]) (mvT hZ (hw _ (List.mem_of_getElem? (i := 56) rfl)))) (hw _ (List.mem_of_getElem? (i := 56) rfl)) (hw _ (List.mem_of_getElem? (i := 55) rfl)) (hw _ (List.mem_of_getElem? (i := 57) rfl)) (hw _ (List.mem_of_getElem? (i := 3) rfl)) (by decide) (rmSame l Z av0 hw [] b114 T199.heap n0 Zk199 ) (by decide) (by decide) f201 (g := (mkF m 270 #[iv p0, iv p1, iv p2, iv p3, iv (((1 : Int32) + (1 : Int32))), iv (1 : Int32), iv (0 : Int32), rv b103, rv b114, rv b133, rv b161, rv b176, rv b103, rv b114, .unset] [(.ref b114), (.ref b114)])) rfl (by rw [hml]; rfl) (argsL := [(.ref b114)]) (rest := []) (lenOf pd__Ljava_lang_Object_Z rfl) rfl (by show 2 * 0 + _ ≤ _; exact Nat.le_of_eq rfl) (hb hby at_270) rfl e199 (by decide : 11 + 0 ≤ _) (by decide : 28 + 0 ≤ _)
    obtain ⟨rfl, N200q, hh200⟩ := hQ200
    have N200 := Fr.app N199 N200q
    have e200 : T200.heap = T199.heap := hh200
    have f202 := (f193.keep K199 (ninS ne_b161_b176 nin0))
    have f204 := (f195.keep K199)
    obtain ⟨_, T203, Lc203, X203, hQ203, st203⟩ := own_virtual (W := 0) (y := mN6) (z := mN6) X200 hx hZ hown (hw _ (List.mem_of_getElem? (i := 41) rfl)) (hw _ (List.mem_of_getElem? (i := 42) rfl)) (notFace_of_selects (args := #[]) (mvT hZ (hw _ (List.mem_of_getElem? (i := 44) rfl)))) (hw _ (List.mem_of_getElem? (i := 44) rfl)) (hw _ (List.mem_of_getElem? (i := 43) rfl)) (hw _ (List.mem_of_getElem? (i := 45) rfl)) (hw _ (List.mem_of_getElem? (i := 34) rfl)) (by decide) (rmHas l Z av0 hw [] b176 b161 k161 ((1 : Int32) + (1 : Int32)) [(.ref b103), (.ref b114)] (((0 : Int32) + (1 : Int32)) + (1 : Int32)) T199.heap n0 Zk199 FA199 FN199 f202) (by decide) (by decide) f204 (g := (mkF m 280 #[iv p0, iv p1, iv p2, iv p3, iv (((1 : Int32) + (1 : Int32))), iv (1 : Int32), iv (0 : Int32), rv b103, rv b114, rv b133, rv b161, rv b176, rv b103, rv b114, .unset] [(.ref b176)])) rfl (by rw [hml]; rfl) (argsL := []) (rest := []) (lenOf pd__Z rfl) rfl (by show 2 * 0 + _ ≤ _; exact Nat.le_of_eq rfl) (hb hby at_280) rfl e200 (by decide : 11 + 0 ≤ _) (by decide : 28 + 0 ≤ _)
    obtain ⟨rfl, N203q, hh203⟩ := hQ203
    have N203 := Fr.app N200 N203q
    have e203 : T203.heap = T199.heap := hh203
    have S205 : ∀ t, Steps p.tables e below (T203.setTop (mkF m 306 #[iv p0, iv p1, iv p2, iv p3, iv (((1 : Int32) + (1 : Int32))), iv (1 : Int32), iv (0 : Int32), rv b103, rv b114, rv b133, rv b161, rv b176, rv b103, rv b114, .unset] [(.int (1 : Int32))])) t → Steps p.tables e below (s₁.setTop (mkF m 0 #[iv p0, iv p1, iv p2, iv p3, .unset, .unset, .unset, .unset, .unset, .unset, .unset, .unset, .unset, .unset, .unset] [])) t := fun t k => S1 t (by
      show Steps p.tables e below (s₁.setTop (mkF m 16 #[iv p0, iv p1, iv p2, iv p3, iv (((1 : Int32) + (1 : Int32))), .unset, .unset, .unset, .unset, .unset, .unset, .unset, .unset, .unset, .unset] [(.int ((XT.ushr p3 (8 : Int32)) &&& (1 : Int32)))])) _
      refine XS.ifNo X0.here hx rfl (hb hby at_16) rfl (XT.i0_eq_f hc16_2) ?_
      refine XT.iconstV X0.here hx rfl (1 : Int32) (hb hby at_19) (by decide) ?_
      refine XS.goto X0.here hx rfl (pc0 := 20) (pc' := 24) rfl (hb hby at_20) (by decide) (by decide) ?_
      refine XS.istore X0.here hx rfl (hb hby at_24) rfl (l' := #[iv p0, iv p1, iv p2, iv p3, iv (((1 : Int32) + (1 : Int32))), iv (1 : Int32), .unset, .unset, .unset, .unset, .unset, .unset, .unset, .unset, .unset]) rfl ?_
      show Steps p.tables e below (s₁.setTop (mkF m 26 #[iv p0, iv p1, iv p2, iv p3, iv (((1 : Int32) + (1 : Int32))), iv (1 : Int32), .unset, .unset, .unset, .unset, .unset, .unset, .unset, .unset, .unset] [])) _
      refine XS.iloadN X0.here hx rfl (hb hby at_26) rfl ?_
      refine XT.bipushV X0.here hx rfl (9 : Int32) (hb hby at_27) (by decide) ?_
      refine XT.iushr X0.here hx rfl (hb hby at_29) rfl ?_
      refine XT.iconstV X0.here hx rfl (1 : Int32) (hb hby at_30) (by decide) ?_
      refine XS.iand X0.here hx rfl (hb hby at_31) rfl ?_
      show Steps p.tables e below (s₁.setTop (mkF m 32 #[iv p0, iv p1, iv p2, iv p3, iv (((1 : Int32) + (1 : Int32))), iv (1 : Int32), .unset, .unset, .unset, .unset, .unset, .unset, .unset, .unset, .unset] [(.int ((XT.ushr p3 (9 : Int32)) &&& (1 : Int32)))])) _
      rw [he]
      show Steps p.tables e below (s₁.setTop (mkF m 32 #[iv p0, iv p1, iv p2, iv p3, iv (((1 : Int32) + (1 : Int32))), iv (1 : Int32), .unset, .unset, .unset, .unset, .unset, .unset, .unset, .unset, .unset] [(.int (0 : Int32))])) _
      refine XS.ifYes X0.here hx rfl (pc0 := 32) (pc' := 39) rfl (hb hby at_32) rfl (XT.i0_eq_t (by decide)) (by decide) (by decide) ?_
      refine XT.iconstV X0.here hx rfl (0 : Int32) (hb hby at_39) (by decide) ?_
      refine XS.istore X0.here hx rfl (hb hby at_40) rfl (l' := #[iv p0, iv p1, iv p2, iv p3, iv (((1 : Int32) + (1 : Int32))), iv (1 : Int32), iv (0 : Int32), .unset, .unset, .unset, .unset, .unset, .unset, .unset, .unset]) rfl ?_
      refine XS.iload X0.here hx rfl (hb hby at_42) rfl ?_
      refine XS.ifYes X0.here hx rfl (pc0 := 44) (pc' := 60) rfl (hb hby at_44) rfl (XT.i0_eq_t (by decide)) (by decide) (by decide) ?_
      refine st103 _ ?_
      show Steps p.tables e below (T103.setTop (mkF m 63 #[iv p0, iv p1, iv p2, iv p3, iv (((1 : Int32) + (1 : Int32))), iv (1 : Int32), iv (0 : Int32), .unset, .unset, .unset, .unset, .unset, .unset, .unset, .unset] [(.ref b103)])) _
      refine XS.dup X103.here hx rfl (hb hby at_63) rfl rfl ?_
      refine XT.iconstV X103.here hx rfl (2 : Int32) (hb hby at_64) (by decide) ?_
      refine st104 _ ?_
      refine XS.dup X104.here hx rfl (hb hby at_67) rfl rfl ?_
      refine XT.iconstV X104.here hx rfl (0 : Int32) (hb hby at_68) (by decide) ?_
      refine XS.iloadN X104.here hx rfl (hb hby at_69) rfl ?_
      show Steps p.tables e below (T104.setTop (mkF m 70 #[iv p0, iv p1, iv p2, iv p3, iv (((1 : Int32) + (1 : Int32))), iv (1 : Int32), iv (0 : Int32), .unset, .unset, .unset, .unset, .unset, .unset, .unset, .unset] [(.int p0), (.int (0 : Int32)), (.ref b104), (.ref b104), (.ref b103), (.ref b103)])) _
      refine XT.sipushV X104.here hx rfl (255 : Int32) (hb hby at_70) (by decide) ?_
      refine XS.iand X104.here hx rfl (hb hby at_73) rfl ?_
      refine XT.i2c X104.here hx rfl (hb hby at_74) rfl ?_
      refine st106 _ ?_
      refine XS.dup X106.here hx rfl (hb hby at_76) rfl rfl ?_
      refine XT.iconstV X106.here hx rfl (1 : Int32) (hb hby at_77) (by decide) ?_
      show Steps p.tables e below (T106.setTop (mkF m 78 #[iv p0, iv p1, iv p2, iv p3, iv (((1 : Int32) + (1 : Int32))), iv (1 : Int32), iv (0 : Int32), .unset, .unset, .unset, .unset, .unset, .unset, .unset, .unset] [(.int (1 : Int32)), (.ref b104), (.ref b104), (.ref b103), (.ref b103)])) _
      refine XT.bipushV X106.here hx rfl (97 : Int32) (hb hby at_78) (by decide) ?_
      refine st108 _ ?_
      refine st113 _ ?_
      refine XS.astore X113.here hx rfl (hb hby at_84) rfl rfl (l' := #[iv p0, iv p1, iv p2, iv p3, iv (((1 : Int32) + (1 : Int32))), iv (1 : Int32), iv (0 : Int32), rv b103, .unset, .unset, .unset, .unset, .unset, .unset, .unset]) rfl ?_
      refine st114 _ ?_
      refine XS.dup X114.here hx rfl (hb hby at_89) rfl rfl ?_
      show Steps p.tables e below (T114.setTop (mkF m 90 #[iv p0, iv p1, iv p2, iv p3, iv (((1 : Int32) + (1 : Int32))), iv (1 : Int32), iv (0 : Int32), rv b103, .unset, .unset, .unset, .unset, .unset, .unset, .unset] [(.ref b114), (.ref b114)])) _
      refine XT.iconstV X114.here hx rfl (2 : Int32) (hb hby at_90) (by decide) ?_
      refine st117 _ ?_
      refine XS.dup X117.here hx rfl (hb hby at_93) rfl rfl ?_
      refine XT.iconstV X117.here hx rfl (0 : Int32) (hb hby at_94) (by decide) ?_
      refine XS.iloadN X117.here hx rfl (hb hby at_95) rfl ?_
      refine XT.sipushV X117.here hx rfl (255 : Int32) (hb hby at_96) (by decide) ?_
      show Steps p.tables e below (T117.setTop (mkF m 99 #[iv p0, iv p1, iv p2, iv p3, iv (((1 : Int32) + (1 : Int32))), iv (1 : Int32), iv (0 : Int32), rv b103, .unset, .unset, .unset, .unset, .unset, .unset, .unset] [(.int (255 : Int32)), (.int p1), (.int (0 : Int32)), (.ref b117), (.ref b117), (.ref b114), (.ref b114)])) _
      refine XS.iand X117.here hx rfl (hb hby at_99) rfl ?_
      refine XT.i2c X117.here hx rfl (hb hby at_100) rfl ?_
      refine st122 _ ?_
      refine XS.dup X122.here hx rfl (hb hby at_102) rfl rfl ?_
      refine XT.iconstV X122.here hx rfl (1 : Int32) (hb hby at_103) (by decide) ?_
      refine XT.bipushV X122.here hx rfl (98 : Int32) (hb hby at_104) (by decide) ?_
      show Steps p.tables e below (T122.setTop (mkF m 106 #[iv p0, iv p1, iv p2, iv p3, iv (((1 : Int32) + (1 : Int32))), iv (1 : Int32), iv (0 : Int32), rv b103, .unset, .unset, .unset, .unset, .unset, .unset, .unset] [(.int (98 : Int32)), (.int (1 : Int32)), (.ref b117), (.ref b117), (.ref b114), (.ref b114)])) _
      refine st124 _ ?_
      refine st129 _ ?_
      refine XS.astore X129.here hx rfl (hb hby at_110) rfl rfl (l' := #[iv p0, iv p1, iv p2, iv p3, iv (((1 : Int32) + (1 : Int32))), iv (1 : Int32), iv (0 : Int32), rv b103, rv b114, .unset, .unset, .unset, .unset, .unset, .unset]) rfl ?_
      refine st133 _ ?_
      refine XS.dup X133.here hx rfl (hb hby at_115) rfl rfl ?_
      refine XT.iconstV X133.here hx rfl (2 : Int32) (hb hby at_116) (by decide) ?_
      show Steps p.tables e below (T133.setTop (mkF m 117 #[iv p0, iv p1, iv p2, iv p3, iv (((1 : Int32) + (1 : Int32))), iv (1 : Int32), iv (0 : Int32), rv b103, rv b114, .unset, .unset, .unset, .unset, .unset, .unset] [(.int (2 : Int32)), (.ref b133), (.ref b133)])) _
      refine st139 _ ?_
      refine XS.dup X139.here hx rfl (hb hby at_119) rfl rfl ?_
      refine XT.iconstV X139.here hx rfl (0 : Int32) (hb hby at_120) (by decide) ?_
      refine XS.iloadN X139.here hx rfl (hb hby at_121) rfl ?_
      refine XT.sipushV X139.here hx rfl (255 : Int32) (hb hby at_122) (by decide) ?_
      refine XS.iand X139.here hx rfl (hb hby at_125) rfl ?_
      show Steps p.tables e below (T139.setTop (mkF m 126 #[iv p0, iv p1, iv p2, iv p3, iv (((1 : Int32) + (1 : Int32))), iv (1 : Int32), iv (0 : Int32), rv b103, rv b114, .unset, .unset, .unset, .unset, .unset, .unset] [(.int (p2 &&& (255 : Int32))), (.int (0 : Int32)), (.ref b139), (.ref b139), (.ref b133), (.ref b133)])) _
      refine XT.i2c X139.here hx rfl (hb hby at_126) rfl ?_
      refine st147 _ ?_
      refine XS.dup X147.here hx rfl (hb hby at_128) rfl rfl ?_
      refine XT.iconstV X147.here hx rfl (1 : Int32) (hb hby at_129) (by decide) ?_
      refine XT.bipushV X147.here hx rfl (99 : Int32) (hb hby at_130) (by decide) ?_
      refine st149 _ ?_
      show Steps p.tables e below (T149.setTop (mkF m 133 #[iv p0, iv p1, iv p2, iv p3, iv (((1 : Int32) + (1 : Int32))), iv (1 : Int32), iv (0 : Int32), rv b103, rv b114, .unset, .unset, .unset, .unset, .unset, .unset] [(.ref b139), (.ref b133), (.ref b133)])) _
      refine st154 _ ?_
      refine XS.astore X154.here hx rfl (hb hby at_136) rfl rfl (l' := #[iv p0, iv p1, iv p2, iv p3, iv (((1 : Int32) + (1 : Int32))), iv (1 : Int32), iv (0 : Int32), rv b103, rv b114, rv b133, .unset, .unset, .unset, .unset, .unset]) rfl ?_
      refine XS.iload X154.here hx rfl (hb hby at_138) rfl ?_
      refine st161 _ ?_
      refine XS.astore X161.here hx rfl (hb hby at_143) rfl rfl (l' := #[iv p0, iv p1, iv p2, iv p3, iv (((1 : Int32) + (1 : Int32))), iv (1 : Int32), iv (0 : Int32), rv b103, rv b114, rv b133, rv b161, .unset, .unset, .unset, .unset]) rfl ?_
      refine XS.aload X161.here hx rfl (hb hby at_145) rfl rfl ?_
      show Steps p.tables e below (T161.setTop (mkF m 147 #[iv p0, iv p1, iv p2, iv p3, iv (((1 : Int32) + (1 : Int32))), iv (1 : Int32), iv (0 : Int32), rv b103, rv b114, rv b133, rv b161, .unset, .unset, .unset, .unset] [(.ref b161)])) _
      refine XT.iconstV X161.here hx rfl (0 : Int32) (hb hby at_147) (by decide) ?_
      refine XS.aload X161.here hx rfl (hb hby at_148) rfl rfl ?_
      refine st172 _ ?_
      refine XS.iload X172.here hx rfl (hb hby at_151) rfl ?_
      refine XT.iconstV X172.here hx rfl (1 : Int32) (hb hby at_153) (by decide) ?_
      refine XS.icmpNo X172.here hx rfl (hb hby at_154) rfl (XT.ii_le_f (by decide)) ?_
      show Steps p.tables e below (T172.setTop (mkF m 157 #[iv p0, iv p1, iv p2, iv p3, iv (((1 : Int32) + (1 : Int32))), iv (1 : Int32), iv (0 : Int32), rv b103, rv b114, rv b133, rv b161, .unset, .unset, .unset, .unset] [])) _
      refine XS.aload X172.here hx rfl (hb hby at_157) rfl rfl ?_
      refine XT.iconstV X172.here hx rfl (1 : Int32) (hb hby at_159) (by decide) ?_
      refine XS.aload X172.here hx rfl (hb hby at_160) rfl rfl ?_
      refine st175 _ ?_
      refine XS.iload X175.here hx rfl (hb hby at_163) rfl ?_
      refine XT.iconstV X175.here hx rfl (2 : Int32) (hb hby at_165) (by decide) ?_
      show Steps p.tables e below (T175.setTop (mkF m 166 #[iv p0, iv p1, iv p2, iv p3, iv (((1 : Int32) + (1 : Int32))), iv (1 : Int32), iv (0 : Int32), rv b103, rv b114, rv b133, rv b161, .unset, .unset, .unset, .unset] [(.int (2 : Int32)), (.int ((1 : Int32) + (1 : Int32)))])) _
      refine XS.icmpYes X175.here hx rfl (pc0 := 166) (pc' := 175) rfl (hb hby at_166) rfl (XT.ii_le_t (by decide)) (by decide) (by decide) ?_
      refine st176 _ ?_
      refine XS.dup X176.here hx rfl (hb hby at_178) rfl rfl ?_
      refine XS.aload X176.here hx rfl (hb hby at_179) rfl rfl ?_
      refine st186 _ ?_
      refine XS.astore X186.here hx rfl (hb hby at_184) rfl rfl (l' := #[iv p0, iv p1, iv p2, iv p3, iv (((1 : Int32) + (1 : Int32))), iv (1 : Int32), iv (0 : Int32), rv b103, rv b114, rv b133, rv b161, rv b176, .unset, .unset, .unset]) rfl ?_
      show Steps p.tables e below (T186.setTop (mkF m 186 #[iv p0, iv p1, iv p2, iv p3, iv (((1 : Int32) + (1 : Int32))), iv (1 : Int32), iv (0 : Int32), rv b103, rv b114, rv b133, rv b161, rv b176, .unset, .unset, .unset] [])) _
      refine XS.aload X186.here hx rfl (hb hby at_186) rfl rfl ?_
      refine st188 _ ?_
      refine XS.ifYes X188.here hx rfl (pc0 := 191) (pc' := 196) rfl (hb hby at_191) rfl (XT.i0_ne_t (by decide)) (by decide) (by decide) ?_
      refine XS.aload X188.here hx rfl (hb hby at_196) rfl rfl ?_
      refine st190 _ ?_
      refine XS.astore X190.here hx rfl (hb hby at_201) rfl rfl (l' := #[iv p0, iv p1, iv p2, iv p3, iv (((1 : Int32) + (1 : Int32))), iv (1 : Int32), iv (0 : Int32), rv b103, rv b114, rv b133, rv b161, rv b176, rv b103, .unset, .unset]) rfl ?_
      show Steps p.tables e below (T190.setTop (mkF m 203 #[iv p0, iv p1, iv p2, iv p3, iv (((1 : Int32) + (1 : Int32))), iv (1 : Int32), iv (0 : Int32), rv b103, rv b114, rv b133, rv b161, rv b176, rv b103, .unset, .unset] [])) _
      refine XS.aload X190.here hx rfl (hb hby at_203) rfl rfl ?_
      refine XS.aload X190.here hx rfl (hb hby at_205) rfl rfl ?_
      refine st191 _ ?_
      refine XS.ifYes X191.here hx rfl (pc0 := 210) (pc' := 215) rfl (hb hby at_210) rfl (XT.i0_ne_t (by decide)) (by decide) (by decide) ?_
      refine XS.aload X191.here hx rfl (hb hby at_215) rfl rfl ?_
      refine st194 _ ?_
      show Steps p.tables e below (T194.setTop (mkF m 220 #[iv p0, iv p1, iv p2, iv p3, iv (((1 : Int32) + (1 : Int32))), iv (1 : Int32), iv (0 : Int32), rv b103, rv b114, rv b133, rv b161, rv b176, rv b103, .unset, .unset] [(.int (own_lt ((0 : Int32) + (1 : Int32)) ((1 : Int32) + (1 : Int32))))])) _
      refine XS.iload X194.here hx rfl (hb hby at_220) rfl ?_
      refine XT.iconstV X194.here hx rfl (1 : Int32) (hb hby at_222) (by decide) ?_
      refine XS.icmpNo X194.here hx rfl (hb hby at_223) rfl (XT.ii_le_f (by decide)) ?_
      refine XT.iconstV X194.here hx rfl (1 : Int32) (hb hby at_226) (by decide) ?_
      refine XS.goto X194.here hx rfl (pc0 := 227) (pc' := 231) rfl (hb hby at_227) (by decide) (by decide) ?_
      refine XS.icmpYes X194.here hx rfl (pc0 := 231) (pc' := 236) rfl (hb hby at_231) rfl (XT.ii_eq_t (by decide)) (by decide) (by decide) ?_
      show Steps p.tables e below (T194.setTop (mkF m 236 #[iv p0, iv p1, iv p2, iv p3, iv (((1 : Int32) + (1 : Int32))), iv (1 : Int32), iv (0 : Int32), rv b103, rv b114, rv b133, rv b161, rv b176, rv b103, .unset, .unset] [])) _
      refine XS.iload X194.here hx rfl (hb hby at_236) rfl ?_
      refine XT.iconstV X194.here hx rfl (1 : Int32) (hb hby at_238) (by decide) ?_
      refine XS.icmpYes X194.here hx rfl (pc0 := 239) (pc' := 244) rfl (hb hby at_239) rfl (XT.ii_ne_t (by decide)) (by decide) (by decide) ?_
      refine XS.iload X194.here hx rfl (hb hby at_244) rfl ?_
      refine XS.ifNo X194.here hx rfl (hb hby at_246) rfl (XT.i0_eq_f (by decide)) ?_
      refine XS.aload X194.here hx rfl (hb hby at_249) rfl rfl ?_
      show Steps p.tables e below (T194.setTop (mkF m 251 #[iv p0, iv p1, iv p2, iv p3, iv (((1 : Int32) + (1 : Int32))), iv (1 : Int32), iv (0 : Int32), rv b103, rv b114, rv b133, rv b161, rv b176, rv b103, .unset, .unset] [(.ref b176)])) _
      refine XS.aload X194.here hx rfl (hb hby at_251) rfl rfl ?_
      refine st199 _ ?_
      refine XS.goto X199.here hx rfl (pc0 := 256) (pc' := 264) rfl (hb hby at_256) (by decide) (by decide) ?_
      refine XS.astore X199.here hx rfl (hb hby at_264) rfl rfl (l' := #[iv p0, iv p1, iv p2, iv p3, iv (((1 : Int32) + (1 : Int32))), iv (1 : Int32), iv (0 : Int32), rv b103, rv b114, rv b133, rv b161, rv b176, rv b103, rv b114, .unset]) rfl ?_
      refine XS.aload X199.here hx rfl (hb hby at_266) rfl rfl ?_
      refine XS.aload X199.here hx rfl (hb hby at_268) rfl rfl ?_
      show Steps p.tables e below (T199.setTop (mkF m 270 #[iv p0, iv p1, iv p2, iv p3, iv (((1 : Int32) + (1 : Int32))), iv (1 : Int32), iv (0 : Int32), rv b103, rv b114, rv b133, rv b161, rv b176, rv b103, rv b114, .unset] [(.ref b114), (.ref b114)])) _
      refine st200 _ ?_
      refine XS.ifYes X200.here hx rfl (pc0 := 273) (pc' := 278) rfl (hb hby at_273) rfl (XT.i0_ne_t (by decide)) (by decide) (by decide) ?_
      refine XS.aload X200.here hx rfl (hb hby at_278) rfl rfl ?_
      refine st203 _ ?_
      refine XS.iload X203.here hx rfl (hb hby at_283) rfl ?_
      refine XT.iconstV X203.here hx rfl (2 : Int32) (hb hby at_285) (by decide) ?_
      show Steps p.tables e below (T203.setTop (mkF m 286 #[iv p0, iv p1, iv p2, iv p3, iv (((1 : Int32) + (1 : Int32))), iv (1 : Int32), iv (0 : Int32), rv b103, rv b114, rv b133, rv b161, rv b176, rv b103, rv b114, .unset] [(.int (2 : Int32)), (.int ((1 : Int32) + (1 : Int32))), (.int (own_lt (((0 : Int32) + (1 : Int32)) + (1 : Int32)) ((1 : Int32) + (1 : Int32))))])) _
      refine XS.icmpYes X203.here hx rfl (pc0 := 286) (pc' := 293) rfl (hb hby at_286) rfl (XT.ii_le_t (by decide)) (by decide) (by decide) ?_
      refine XT.iconstV X203.here hx rfl (0 : Int32) (hb hby at_293) (by decide) ?_
      refine XS.icmpYes X203.here hx rfl (pc0 := 294) (pc' := 299) rfl (hb hby at_294) rfl (XT.ii_eq_t (by decide)) (by decide) (by decide) ?_
      refine XS.iload X203.here hx rfl (hb hby at_299) rfl ?_
      refine XT.iconstV X203.here hx rfl (2 : Int32) (hb hby at_301) (by decide) ?_
      refine XS.icmpNo X203.here hx rfl (hb hby at_302) rfl (XT.ii_ne_f (by decide)) ?_
      show Steps p.tables e below (T203.setTop (mkF m 305 #[iv p0, iv p1, iv p2, iv p3, iv (((1 : Int32) + (1 : Int32))), iv (1 : Int32), iv (0 : Int32), rv b103, rv b114, rv b133, rv b161, rv b176, rv b103, rv b114, .unset] [])) _
      refine XT.iconstV X203.here hx rfl (1 : Int32) (hb hby at_305) (by decide) ?_
      exact k)
    obtain ⟨fs, hr, hrun, hended, hW, hsame⟩ := X203.leave (v := some (.int (1 : Int32))) (fun h => by rw [Bd.returns] at h; cases h)
    refine ⟨_, _, pre0 _ (S205 _ ?_), hrun, hended, _, _, rfl, ?_, ReturnedEndW.of_narrow ⟨_, rfl⟩ hW (hsame.mono (by decide) (by decide))⟩
    · exact retN X203 hx (t := .boolean) Bd.returns (by simp) (hb hby at_306) hr
    · show Qrm0 Z p0 p1 p2 p3 wC h0 n0 _ T203.heap _
      rw [e203]
      exact ⟨rfl, N203⟩
set_option maxRecDepth 65536 in
set_option maxHeartbeats 40000000 in
theorem rm0_2_1 (l : Launch) (Z : State) (av0 : Array Value) (hw : ∀ d ∈ tables_1, d.before av0 Z = true) (ws : List Jvm.Cond) (p0 : Int32) (p1 : Int32) (p2 : Int32) (p3 : Int32) (wC : Int32) (h0 : Heap) (n0 : Nat) (Z0 : n0 ≤ h0.size) (hS : Sta Z h0 "java/lang/String" "COMPACT_STRINGS" "Z" (.int wC)) (hw0 : ¬ wC = (0 : Int32)) (hkp : ∀ (b : Addr) (cl : Cell), Z.heap[b]? = some cl → h0[b]? = some cl) (hcH : Jvm.Lit.constHeld Z "java/lang/String" 7) (hcw : Jvm.Lit.compactW.before av0 Z = true) (hk : own_P p3 (3 : Int32) = (1 : Int32)) (he : XT.ushr p3 (9 : Int32) &&& (1 : Int32) = (1 : Int32)) :
    MetFree l x (head1 (Jvm.Cond.code x code maxLocals ret :: ws) room_1) (fun aU U => aU = #[(.int p0), (.int p1), (.int p2), (.int p3)] ∧ Z.Warmed39 U.vm ∧ U.heap = h0 ∧ IB Z U.vm []) (fun _ _ _ _ _ => True) (fun _ U oU U' => ∃ vU LU, oU = .returned vU ∧ Qrm0 Z p0 p1 p2 p3 wC h0 n0 vU U'.heap LU ∧ ReturnedEndW U oU U' LU room_1.cells room_1.slots) := by
  refine MetFree.of_bodySF (plainFor_of_name pn_OptionReaderOptionPinLaw) hisR ?_
  intro p e s m args below meth c s₁ Bd hml0 hP hK
  obtain ⟨rfl, hZ, hh, hI⟩ := hP
  have hx := Bd.exec
  have hby := Bd.bytes
  have hml : c.maxLocals = 15 := hml0
  have hown : s.vm.findClass "com/example/steady_courier/steadycourier/OptionReaderOptionPinLaw" = some m.cls := findClass_of_methodNamed Bd.named
  have hnm := (name_of_methodNamed Bd.named Bd.method).1
  have X0 : Stand p l e room_1 s m #[(.int p0), (.int p1), (.int p2), (.int p3)] below meth c s₁ [] 0 0 := Stand.of_body Bd
  have e0 : s₁.heap = h0 := by rw [← hh, Bd.state]; rfl
  have N0 := Fr.nil n0
  have pre0 : ∀ t, Steps p.tables e below (s₁.setTop (mkF m 0 #[iv p0, iv p1, iv p2, iv p3, .unset, .unset, .unset, .unset, .unset, .unset, .unset, .unset, .unset, .unset, .unset] [])) t → Steps p.tables e below (s₁.setTop (entryFrame m #[(.int p0), (.int p1), (.int p2), (.int p3)] maxLocals)) t := fun t k => castTop (by first | (simp [entryFrame, mkF, argsToLocals, Value.category, maxLocals]; done) | rfl) k
  have S1 : ∀ t, Steps p.tables e below (s₁.setTop (mkF m 16 #[iv p0, iv p1, iv p2, iv p3, iv (((1 : Int32) + (1 : Int32))), .unset, .unset, .unset, .unset, .unset, .unset, .unset, .unset, .unset, .unset] [(.int ((XT.ushr p3 (8 : Int32)) &&& (1 : Int32)))])) t → Steps p.tables e below (s₁.setTop (mkF m 0 #[iv p0, iv p1, iv p2, iv p3, .unset, .unset, .unset, .unset, .unset, .unset, .unset, .unset, .unset, .unset, .unset] [])) t := fun t k => id (by
    show Steps p.tables e below (s₁.setTop (mkF m 0 #[iv p0, iv p1, iv p2, iv p3, .unset, .unset, .unset, .unset, .unset, .unset, .unset, .unset, .unset, .unset, .unset] [])) _
    refine XT.iconstV X0.here hx rfl (1 : Int32) (hb hby at_0) (by decide) ?_
    refine XS.iloadN X0.here hx rfl (hb hby at_1) rfl ?_
    refine X0.ldcI hx hown (mvT hZ (hw _ (List.mem_of_getElem? (i := 0) rfl))) rfl (hb hby at_2) ?_
    refine XS.iand X0.here hx rfl (hb hby at_4) rfl ?_
    refine XT.iconstV X0.here hx rfl (3 : Int32) (hb hby at_5) (by decide) ?_
    refine XS.irem X0.here hx rfl (hb hby at_6) rfl (by decide) ?_
    show Steps p.tables e below (s₁.setTop (mkF m 7 #[iv p0, iv p1, iv p2, iv p3, .unset, .unset, .unset, .unset, .unset, .unset, .unset, .unset, .unset, .unset, .unset] [(.int ((p3 &&& (2147483647 : Int32)) - ((p3 &&& (2147483647 : Int32)) / (3 : Int32)) * (3 : Int32))), (.int (1 : Int32))])) _
    show Steps p.tables e below (s₁.setTop (mkF m 7 #[iv p0, iv p1, iv p2, iv p3, .unset, .unset, .unset, .unset, .unset, .unset, .unset, .unset, .unset, .unset, .unset] [(.int ((p3 &&& (2147483647 : Int32)) - ((p3 &&& (2147483647 : Int32)) / (3 : Int32)) * (3 : Int32))), (.int (1 : Int32))])) _
    show Steps p.tables e below (s₁.setTop (mkF m 7 #[iv p0, iv p1, iv p2, iv p3, .unset, .unset, .unset, .unset, .unset, .unset, .unset, .unset, .unset, .unset, .unset] [(.int (own_P p3 (3 : Int32))), (.int (1 : Int32))])) _
    rw [hk]
    show Steps p.tables e below (s₁.setTop (mkF m 7 #[iv p0, iv p1, iv p2, iv p3, .unset, .unset, .unset, .unset, .unset, .unset, .unset, .unset, .unset, .unset, .unset] [(.int (1 : Int32)), (.int (1 : Int32))])) _
    refine XS.iadd X0.here hx rfl (hb hby at_7) rfl ?_
    refine XS.istore X0.here hx rfl (hb hby at_8) rfl (l' := #[iv p0, iv p1, iv p2, iv p3, iv (((1 : Int32) + (1 : Int32))), .unset, .unset, .unset, .unset, .unset, .unset, .unset, .unset, .unset, .unset]) rfl ?_
    refine XS.iloadN X0.here hx rfl (hb hby at_10) rfl ?_
    refine XT.bipushV X0.here hx rfl (8 : Int32) (hb hby at_11) (by decide) ?_
    refine XT.iushr X0.here hx rfl (hb hby at_13) rfl ?_
    show Steps p.tables e below (s₁.setTop (mkF m 14 #[iv p0, iv p1, iv p2, iv p3, iv (((1 : Int32) + (1 : Int32))), .unset, .unset, .unset, .unset, .unset, .unset, .unset, .unset, .unset, .unset] [(.int (XT.ushr p3 (8 : Int32)))])) _
    refine XT.iconstV X0.here hx rfl (1 : Int32) (hb hby at_14) (by decide) ?_
    refine XS.iand X0.here hx rfl (hb hby at_15) rfl ?_
    exact k)
  by_cases hc16_2 : ((XT.ushr p3 (8 : Int32)) &&& (1 : Int32)) = (0 : Int32)
  · obtain ⟨T3, h3, X3, e3, E3, A3, D3, -, st3⟩ := newO X0 hx hZ hown (hw _ (List.mem_of_getElem? (i := 1) rfl)) (hw _ (List.mem_of_getElem? (i := 2) rfl)) (hw _ (List.mem_of_getElem? (i := 3) rfl)) e0 (g := (mkF m 47 #[iv p0, iv p1, iv p2, iv p3, iv (((1 : Int32) + (1 : Int32))), iv (0 : Int32), iv (1 : Int32), .unset, .unset, .unset, .unset, .unset, .unset, .unset, .unset] [])) rfl (hb hby at_47) (by decide) (by decide)
    obtain ⟨b3, g3⟩ : ∃ z, z = h0.size := ⟨_, rfl⟩
    rw [← g3] at A3 D3 st3
    have ge_b3 : n0 ≤ b3 := Nat.le_trans Z0 (Nat.le_of_eq g3.symm)
    have sz_b3 : h0.size ≤ b3 := Nat.le_of_eq g3.symm
    have Z3 : n0 ≤ h3.size := Nat.le_trans Z0 E3.1
    have K3 : Keep h0 h3 [] := (Keep.refl h0 []).ext E3
    have F3_coder : Fld Z h3 b3 "java/lang/String" "coder" "B" (.int (0 : Int32)) := D3 (Or.inr (hw _ (List.mem_of_getElem? (i := 28) rfl))) (ty := .byte) (by decide)
    have F3_value : Fld Z h3 b3 "java/lang/String" "value" "[B" .null := D3 (Or.inr (hw _ (List.mem_of_getElem? (i := 30) rfl))) (ty := (.array .byte)) (by decide)
    obtain ⟨T4, h4, k4, X4, e4, E4, A4, st4⟩ := newP X3 hx hZ (hw _ (List.mem_of_getElem? (i := 4) rfl)) e3 (g := (mkF m 52 #[iv p0, iv p1, iv p2, iv p3, iv (((1 : Int32) + (1 : Int32))), iv (0 : Int32), iv (1 : Int32), .unset, .unset, .unset, .unset, .unset, .unset, .unset, .unset] [(.int (0 : Int32)), (.ref b3), (.ref b3)])) rfl (hb hby at_52) rfl (by decide) (cap := 0) (by decide) (by decide) (by decide) (by decide)
    obtain ⟨b4, g4⟩ : ∃ z, z = h3.size := ⟨_, rfl⟩
    rw [← g4] at A4 st4
    have ne_b3_b4 : b3 ≠ b4 := Nat.ne_of_lt (Nat.lt_of_lt_of_le A3.lt (Nat.le_of_eq g4.symm))
    have ge_b4 : n0 ≤ b4 := Nat.le_trans Z3 (Nat.le_of_eq g4.symm)
    have sz_b4 : h0.size ≤ b4 := Nat.le_trans K3.1 (Nat.le_of_eq g4.symm)
    have Z4 : n0 ≤ h4.size := Nat.le_trans Z3 E4.1
    have K4 : Keep h0 h4 [] := K3.ext E4
    have V4 : Arv Z h4 b4 k4 .char (0 : Int32) [] (.int (0 : Int32)) := Arv.new A4 (by decide)
    have f5 := (A3.ext E4)
    have f6 := (F3_value.ext E4)
    have f7 := (F3_coder.ext E4)
    have S9 : ∀ t, Steps p.tables e below (T4.setTop (mkF m 54 #[iv p0, iv p1, iv p2, iv p3, iv (((1 : Int32) + (1 : Int32))), iv (0 : Int32), iv (1 : Int32), .unset, .unset, .unset, .unset, .unset, .unset, .unset, .unset] [(.ref b4), (.ref b3), (.ref b3)])) t → Steps p.tables e below (s₁.setTop (mkF m 0 #[iv p0, iv p1, iv p2, iv p3, .unset, .unset, .unset, .unset, .unset, .unset, .unset, .unset, .unset, .unset, .unset] [])) t := fun t k => S1 t (by
      show Steps p.tables e below (s₁.setTop (mkF m 16 #[iv p0, iv p1, iv p2, iv p3, iv (((1 : Int32) + (1 : Int32))), .unset, .unset, .unset, .unset, .unset, .unset, .unset, .unset, .unset, .unset] [(.int ((XT.ushr p3 (8 : Int32)) &&& (1 : Int32)))])) _
      refine XS.ifYes X0.here hx rfl (pc0 := 16) (pc' := 23) rfl (hb hby at_16) rfl (XT.i0_eq_t hc16_2) (by decide) (by decide) ?_
      refine XT.iconstV X0.here hx rfl (0 : Int32) (hb hby at_23) (by decide) ?_
      refine XS.istore X0.here hx rfl (hb hby at_24) rfl (l' := #[iv p0, iv p1, iv p2, iv p3, iv (((1 : Int32) + (1 : Int32))), iv (0 : Int32), .unset, .unset, .unset, .unset, .unset, .unset, .unset, .unset, .unset]) rfl ?_
      refine XS.iloadN X0.here hx rfl (hb hby at_26) rfl ?_
      show Steps p.tables e below (s₁.setTop (mkF m 27 #[iv p0, iv p1, iv p2, iv p3, iv (((1 : Int32) + (1 : Int32))), iv (0 : Int32), .unset, .unset, .unset, .unset, .unset, .unset, .unset, .unset, .unset] [(.int p3)])) _
      refine XT.bipushV X0.here hx rfl (9 : Int32) (hb hby at_27) (by decide) ?_
      refine XT.iushr X0.here hx rfl (hb hby at_29) rfl ?_
      refine XT.iconstV X0.here hx rfl (1 : Int32) (hb hby at_30) (by decide) ?_
      refine XS.iand X0.here hx rfl (hb hby at_31) rfl ?_
      show Steps p.tables e below (s₁.setTop (mkF m 32 #[iv p0, iv p1, iv p2, iv p3, iv (((1 : Int32) + (1 : Int32))), iv (0 : Int32), .unset, .unset, .unset, .unset, .unset, .unset, .unset, .unset, .unset] [(.int ((XT.ushr p3 (9 : Int32)) &&& (1 : Int32)))])) _
      rw [he]
      show Steps p.tables e below (s₁.setTop (mkF m 32 #[iv p0, iv p1, iv p2, iv p3, iv (((1 : Int32) + (1 : Int32))), iv (0 : Int32), .unset, .unset, .unset, .unset, .unset, .unset, .unset, .unset, .unset] [(.int (1 : Int32))])) _
      refine XS.ifNo X0.here hx rfl (hb hby at_32) rfl (XT.i0_eq_f (by decide)) ?_
      show Steps p.tables e below (s₁.setTop (mkF m 35 #[iv p0, iv p1, iv p2, iv p3, iv (((1 : Int32) + (1 : Int32))), iv (0 : Int32), .unset, .unset, .unset, .unset, .unset, .unset, .unset, .unset, .unset] [])) _
      refine XT.iconstV X0.here hx rfl (1 : Int32) (hb hby at_35) (by decide) ?_
      refine XS.goto X0.here hx rfl (pc0 := 36) (pc' := 40) rfl (hb hby at_36) (by decide) (by decide) ?_
      refine XS.istore X0.here hx rfl (hb hby at_40) rfl (l' := #[iv p0, iv p1, iv p2, iv p3, iv (((1 : Int32) + (1 : Int32))), iv (0 : Int32), iv (1 : Int32), .unset, .unset, .unset, .unset, .unset, .unset, .unset, .unset]) rfl ?_
      refine XS.iload X0.here hx rfl (hb hby at_42) rfl ?_
      refine XS.ifNo X0.here hx rfl (hb hby at_44) rfl (XT.i0_eq_f (by decide)) ?_
      refine st3 _ ?_
      show Steps p.tables e below (T3.setTop (mkF m 50 #[iv p0, iv p1, iv p2, iv p3, iv (((1 : Int32) + (1 : Int32))), iv (0 : Int32), iv (1 : Int32), .unset, .unset, .unset, .unset, .unset, .unset, .unset, .unset] [(.ref b3)])) _
      refine XS.dup X3.here hx rfl (hb hby at_50) rfl rfl ?_
      refine XT.iconstV X3.here hx rfl (0 : Int32) (hb hby at_51) (by decide) ?_
      refine st4 _ ?_
      exact k)
    obtain ⟨_, T8, Lc8, X8, hS8, hQ8, st8⟩ := own_specialI (W := 1) (y := mN4) X4 hx hZ rfl hown (hw _ (List.mem_of_getElem? (i := 5) rfl)) (hw _ (List.mem_of_getElem? (i := 6) rfl)) (hw _ (List.mem_of_getElem? (i := 7) rfl)) (hw _ (List.mem_of_getElem? (i := 3) rfl)) (by decide) (rmSi2_e l Z av0 hw [] b3 b4 k4 h4 n0 Z4 f5 f6 f7 ge_b3 V4 (fun b cl q => K4.2.1 b cl (hkp b cl q) nin0) hcH hcw) (by decide) (by decide) hI (g := (mkF m 54 #[iv p0, iv p1, iv p2, iv p3, iv (((1 : Int32) + (1 : Int32))), iv (0 : Int32), iv (1 : Int32), .unset, .unset, .unset, .unset, .unset, .unset, .unset, .unset] [(.ref b4), (.ref b3), (.ref b3)])) rfl (by rw [hml]; rfl) (a := b3) (argsL := [(.ref b4)]) (rest := [(.ref b3)]) (lenOf pd__C_V rfl) rfl (by show 2 * 0 + _ ≤ _; exact Nat.le_of_eq rfl) (hb hby at_54) rfl e4 (by decide : 2 + 2 ≤ _) (by decide : 4 + 4 ≤ _)
    have hZ := State.Warmed39.trans (t := s) hZ hS8.1
    have hown : (s.setVm T8.vm).vm.findClass "com/example/steady_courier/steadycourier/OptionReaderOptionPinLaw" = some m.cls := by rw [show (s.setVm T8.vm).vm = T8.vm from rfl, hS8.1.alike.findClass]; exact hown
    obtain ⟨rfl, N8q, K8, FC8, b8, kb8, FV8, V8⟩ := hQ8
    have N8 := Fr.app N0 N8q
    have e8 : T8.heap = T8.heap := rfl
    have Zk8 : n0 ≤ T8.heap.size := Nat.le_trans Z4 K8.1
    have Kk8 : Keep h0 T8.heap [] := K4.trans K8 (allS (Or.inr sz_b3) all0)
    have f10 := (f5.keep K8)
    have ne_b3_b8 : b3 ≠ b8 := f10.neArv V8 (hw _ (List.mem_of_getElem? (i := 2) rfl))
    obtain ⟨T11, h11, X11, e11, E11, A11, D11, -, st11⟩ := newO X8 hx hZ hown (hw _ (List.mem_of_getElem? (i := 1) rfl)) (hw _ (List.mem_of_getElem? (i := 2) rfl)) (hw _ (List.mem_of_getElem? (i := 3) rfl)) e8 (g := (mkF m 86 #[iv p0, iv p1, iv p2, iv p3, iv (((1 : Int32) + (1 : Int32))), iv (0 : Int32), iv (1 : Int32), rv b3, .unset, .unset, .unset, .unset, .unset, .unset, .unset] [])) rfl (hb hby at_86) (by decide) (by decide)
    obtain ⟨b11, g11⟩ : ∃ z, z = T8.heap.size := ⟨_, rfl⟩
    rw [← g11] at A11 D11 st11
    have ne_b3_b11 : b3 ≠ b11 := Nat.ne_of_lt (Nat.lt_of_lt_of_le f10.lt (Nat.le_of_eq g11.symm))
    have f12 := (V4.keep K8 (ninS (Ne.symm ne_b3_b4) nin0))
    have ne_b4_b11 : b4 ≠ b11 := Nat.ne_of_lt (Nat.lt_of_lt_of_le f12.lt (Nat.le_of_eq g11.symm))
    have ne_b8_b11 : b8 ≠ b11 := Nat.ne_of_lt (Nat.lt_of_lt_of_le V8.lt (Nat.le_of_eq g11.symm))
    have ge_b11 : n0 ≤ b11 := Nat.le_trans Zk8 (Nat.le_of_eq g11.symm)
    have sz_b11 : h0.size ≤ b11 := Nat.le_trans Kk8.1 (Nat.le_of_eq g11.symm)
    have Z11 : n0 ≤ h11.size := Nat.le_trans Zk8 E11.1
    have K11 : Keep h0 h11 [] := Kk8.ext E11
    have F11_coder : Fld Z h11 b11 "java/lang/String" "coder" "B" (.int (0 : Int32)) := D11 (Or.inr (hw _ (List.mem_of_getElem? (i := 28) rfl))) (ty := .byte) (by decide)
    have F11_value : Fld Z h11 b11 "java/lang/String" "value" "[B" .null := D11 (Or.inr (hw _ (List.mem_of_getElem? (i := 30) rfl))) (ty := (.array .byte)) (by decide)
    obtain ⟨T13, h13, k13, X13, e13, E13, A13, st13⟩ := newP X11 hx hZ (hw _ (List.mem_of_getElem? (i := 4) rfl)) e11 (g := (mkF m 91 #[iv p0, iv p1, iv p2, iv p3, iv (((1 : Int32) + (1 : Int32))), iv (0 : Int32), iv (1 : Int32), rv b3, .unset, .unset, .unset, .unset, .unset, .unset, .unset] [(.int (2 : Int32)), (.ref b11), (.ref b11)])) rfl (hb hby at_91) rfl (by decide) (cap := 2) (by decide) (by decide) (by decide) (by decide)
    obtain ⟨b13, g13⟩ : ∃ z, z = h11.size := ⟨_, rfl⟩
    rw [← g13] at A13 st13
    have ne_b11_b13 : b11 ≠ b13 := Nat.ne_of_lt (Nat.lt_of_lt_of_le A11.lt (Nat.le_of_eq g13.symm))
    have f14 := (f10.ext E11)
    have ne_b3_b13 : b3 ≠ b13 := Nat.ne_of_lt (Nat.lt_of_lt_of_le f14.lt (Nat.le_of_eq g13.symm))
    have f15 := (f12.ext E11)
    have ne_b4_b13 : b4 ≠ b13 := Nat.ne_of_lt (Nat.lt_of_lt_of_le f15.lt (Nat.le_of_eq g13.symm))
    have f16 := (V8.ext E11)
    have ne_b8_b13 : b8 ≠ b13 := Nat.ne_of_lt (Nat.lt_of_lt_of_le f16.lt (Nat.le_of_eq g13.symm))
    have ge_b13 : n0 ≤ b13 := Nat.le_trans Z11 (Nat.le_of_eq g13.symm)
    have sz_b13 : h0.size ≤ b13 := Nat.le_trans K11.1 (Nat.le_of_eq g13.symm)
    have Z13 : n0 ≤ h13.size := Nat.le_trans Z11 E13.1
    have K13 : Keep h0 h13 [] := K11.ext E13
    have V13 : Arv Z h13 b13 k13 .char (2 : Int32) [(.int (0 : Int32)), (.int (0 : Int32))] (.int (0 : Int32)) := (Arv.new A13 (by decide)).pad (pad_rep [] (.int (0 : Int32)) 2)
    obtain ⟨cl17, Ar17, qk17, Sz17, Ng17, Hs17, Gs17⟩ := id V13
    have hin17 : ¬ ((0 : Int32) < 0 ∨ cl17.slots.size ≤ ((0 : Int32)).toNatClampNeg) := inb_of Sz17 ⟨by decide, by decide⟩
    obtain ⟨T18, h18, X18, e18, W18, st18⟩ := stC X13 hx hZ e13 Ar17 (j := (0 : Int32)) hin17 (g := (mkF m 101 #[iv p0, iv p1, iv p2, iv p3, iv (((1 : Int32) + (1 : Int32))), iv (0 : Int32), iv (1 : Int32), rv b3, .unset, .unset, .unset, .unset, .unset, .unset, .unset] [(.int ((p1 &&& (255 : Int32))).toUInt32.toUInt16.toUInt32.toInt32), (.int (0 : Int32)), (.ref b13), (.ref b13), (.ref b11), (.ref b11)])) rfl rfl (hb hby at_101)
    have N18 := Fr.snoc X18 N8 ge_b13
    have Z18 : n0 ≤ h18.size := Nat.le_trans Z13 (Nat.le_of_eq W18.size.symm)
    have K18 : Keep h0 h18 [] := K13.wr W18 (Or.inr sz_b13)
    have V18 : Arv Z h18 b13 k13 .char (2 : Int32) [(.int (nar .char ((p1 &&& (255 : Int32))).toUInt32.toUInt16.toUInt32.toInt32)), (.int (0 : Int32))] (.int (0 : Int32)) := Arv.set Ar17 qk17 Sz17 Ng17 Hs17 Gs17 (fits_nar_char _) W18 0 rfl (Nat.le_of_ble_eq_true rfl)
    obtain ⟨cl19, Ar19, qk19, Sz19, Ng19, Hs19, Gs19⟩ := id V18
    have hin19 : ¬ ((1 : Int32) < 0 ∨ cl19.slots.size ≤ ((1 : Int32)).toNatClampNeg) := inb_of Sz19 ⟨by decide, by decide⟩
    obtain ⟨T20, h20, X20, e20, W20, st20⟩ := stC X18 hx hZ e18 Ar19 (j := (1 : Int32)) hin19 (g := (mkF m 106 #[iv p0, iv p1, iv p2, iv p3, iv (((1 : Int32) + (1 : Int32))), iv (0 : Int32), iv (1 : Int32), rv b3, .unset, .unset, .unset, .unset, .unset, .unset, .unset] [(.int (98 : Int32)), (.int (1 : Int32)), (.ref b13), (.ref b13), (.ref b11), (.ref b11)])) rfl rfl (hb hby at_106)
    have N20 := Fr.snoc X20 N18 ge_b13
    have Z20 : n0 ≤ h20.size := Nat.le_trans Z18 (Nat.le_of_eq W20.size.symm)
    have K20 : Keep h0 h20 [] := K18.wr W20 (Or.inr sz_b13)
    have V20 : Arv Z h20 b13 k13 .char (2 : Int32) [(.int (nar .char ((p1 &&& (255 : Int32))).toUInt32.toUInt16.toUInt32.toInt32)), (.int (nar .char (98 : Int32)))] (.int (0 : Int32)) := Arv.set Ar19 qk19 Sz19 Ng19 Hs19 Gs19 (fits_nar_char _) W20 1 rfl (Nat.le_of_ble_eq_true rfl)
    have f21 := (((A11.ext E13).wr W18).wr W20)
    have f22 := (((F11_value.ext E13).other W18 (Or.inl ne_b11_b13)).other W20 (Or.inl ne_b11_b13))
    have f23 := (((F11_coder.ext E13).other W18 (Or.inl ne_b11_b13)).other W20 (Or.inl ne_b11_b13))
    have f24 := (((((own_stak ((hS.ext E3).ext E4) K8 (allS (own_exns f5) all0)).ext E11).ext E13).wr W18).wr W20)
    obtain ⟨_, T25, Lc25, X25, hQ25, st25⟩ := own_special (W := 1) (y := mN4) X20 hx hZ rfl hown (hw _ (List.mem_of_getElem? (i := 5) rfl)) (hw _ (List.mem_of_getElem? (i := 6) rfl)) (hw _ (List.mem_of_getElem? (i := 7) rfl)) (hw _ (List.mem_of_getElem? (i := 3) rfl)) (by decide) (rmSi2_2 l Z av0 hw [] b11 b13 k13 wC (nar .char ((p1 &&& (255 : Int32))).toUInt32.toUInt16.toUInt32.toInt32) (nar .char (98 : Int32)) h20 n0 Z20 f21 f22 f23 ge_b11 V20 f24 hw0 (own_ch p1) (by decide)) (by decide) (by decide) (g := (mkF m 107 #[iv p0, iv p1, iv p2, iv p3, iv (((1 : Int32) + (1 : Int32))), iv (0 : Int32), iv (1 : Int32), rv b3, .unset, .unset, .unset, .unset, .unset, .unset, .unset] [(.ref b13), (.ref b11), (.ref b11)])) rfl (by rw [hml]; rfl) (a := b11) (argsL := [(.ref b13)]) (rest := [(.ref b11)]) (lenOf pd__C_V rfl) rfl (by show 2 * 0 + _ ≤ _; exact Nat.le_of_eq rfl) (hb hby at_107) rfl e20 (by decide : 6 + 1 ≤ _) (by decide : 14 + 2 ≤ _)
    obtain ⟨rfl, N25q, K25, FC25, b25, kb25, FV25, V25, gb25⟩ := hQ25
    have N25 := Fr.app N20 N25q
    have e25 : T25.heap = T25.heap := rfl
    have ne_b11_b25 : b11 ≠ b25 := Nat.ne_of_lt (Nat.lt_of_lt_of_le f21.lt gb25)
    have ne_b13_b25 : b13 ≠ b25 := Nat.ne_of_lt (Nat.lt_of_lt_of_le V20.lt gb25)
    have f26 := (((f14.ext E13).wr W18).wr W20)
    have ne_b3_b25 : b3 ≠ b25 := Nat.ne_of_lt (Nat.lt_of_lt_of_le f26.lt gb25)
    have f27 := (((f15.ext E13).other W18 ne_b4_b13).other W20 ne_b4_b13)
    have ne_b4_b25 : b4 ≠ b25 := Nat.ne_of_lt (Nat.lt_of_lt_of_le f27.lt gb25)
    have f28 := (((f16.ext E13).other W18 ne_b8_b13).other W20 ne_b8_b13)
    have ne_b8_b25 : b8 ≠ b25 := Nat.ne_of_lt (Nat.lt_of_lt_of_le f28.lt gb25)
    have ge_b25 : n0 ≤ b25 := Nat.le_trans Z20 gb25
    have sz_b25 : h0.size ≤ b25 := Nat.le_trans K20.1 gb25
    have Zk25 : n0 ≤ T25.heap.size := Nat.le_trans Z20 K25.1
    have Kk25 : Keep h0 T25.heap [] := K20.trans K25 (allS (Or.inr sz_b11) all0)
    obtain ⟨T29, h29, X29, e29, E29, A29, D29, -, st29⟩ := newO X25 hx hZ hown (hw _ (List.mem_of_getElem? (i := 1) rfl)) (hw _ (List.mem_of_getElem? (i := 2) rfl)) (hw _ (List.mem_of_getElem? (i := 3) rfl)) e25 (g := (mkF m 112 #[iv p0, iv p1, iv p2, iv p3, iv (((1 : Int32) + (1 : Int32))), iv (0 : Int32), iv (1 : Int32), rv b3, rv b11, .unset, .unset, .unset, .unset, .unset, .unset] [])) rfl (hb hby at_112) (by decide) (by decide)
    obtain ⟨b29, g29⟩ : ∃ z, z = T25.heap.size := ⟨_, rfl⟩
    rw [← g29] at A29 D29 st29
    have f30 := (f21.keep K25)
    have ne_b11_b29 : b11 ≠ b29 := Nat.ne_of_lt (Nat.lt_of_lt_of_le f30.lt (Nat.le_of_eq g29.symm))
    have f31 := (V20.keep K25 (ninS (Ne.symm ne_b11_b13) nin0))
    have ne_b13_b29 : b13 ≠ b29 := Nat.ne_of_lt (Nat.lt_of_lt_of_le f31.lt (Nat.le_of_eq g29.symm))
    have ne_b25_b29 : b25 ≠ b29 := Nat.ne_of_lt (Nat.lt_of_lt_of_le V25.lt (Nat.le_of_eq g29.symm))
    have f32 := (f26.keep K25)
    have ne_b3_b29 : b3 ≠ b29 := Nat.ne_of_lt (Nat.lt_of_lt_of_le f32.lt (Nat.le_of_eq g29.symm))
    have f33 := (f27.keep K25 (ninS ne_b4_b11 nin0))
    have ne_b4_b29 : b4 ≠ b29 := Nat.ne_of_lt (Nat.lt_of_lt_of_le f33.lt (Nat.le_of_eq g29.symm))
    have f34 := (f28.keep K25 (ninS ne_b8_b11 nin0))
    have ne_b8_b29 : b8 ≠ b29 := Nat.ne_of_lt (Nat.lt_of_lt_of_le f34.lt (Nat.le_of_eq g29.symm))
    have ge_b29 : n0 ≤ b29 := Nat.le_trans Zk25 (Nat.le_of_eq g29.symm)
    have sz_b29 : h0.size ≤ b29 := Nat.le_trans Kk25.1 (Nat.le_of_eq g29.symm)
    have Z29 : n0 ≤ h29.size := Nat.le_trans Zk25 E29.1
    have K29 : Keep h0 h29 [] := Kk25.ext E29
    have F29_coder : Fld Z h29 b29 "java/lang/String" "coder" "B" (.int (0 : Int32)) := D29 (Or.inr (hw _ (List.mem_of_getElem? (i := 28) rfl))) (ty := .byte) (by decide)
    have F29_value : Fld Z h29 b29 "java/lang/String" "value" "[B" .null := D29 (Or.inr (hw _ (List.mem_of_getElem? (i := 30) rfl))) (ty := (.array .byte)) (by decide)
    obtain ⟨T35, h35, k35, X35, e35, E35, A35, st35⟩ := newP X29 hx hZ (hw _ (List.mem_of_getElem? (i := 4) rfl)) e29 (g := (mkF m 117 #[iv p0, iv p1, iv p2, iv p3, iv (((1 : Int32) + (1 : Int32))), iv (0 : Int32), iv (1 : Int32), rv b3, rv b11, .unset, .unset, .unset, .unset, .unset, .unset] [(.int (2 : Int32)), (.ref b29), (.ref b29)])) rfl (hb hby at_117) rfl (by decide) (cap := 2) (by decide) (by decide) (by decide) (by decide)
    obtain ⟨b35, g35⟩ : ∃ z, z = h29.size := ⟨_, rfl⟩
    rw [← g35] at A35 st35
    have f36 := (f30.ext E29)
    have ne_b11_b35 : b11 ≠ b35 := Nat.ne_of_lt (Nat.lt_of_lt_of_le f36.lt (Nat.le_of_eq g35.symm))
    have f37 := (f31.ext E29)
    have ne_b13_b35 : b13 ≠ b35 := Nat.ne_of_lt (Nat.lt_of_lt_of_le f37.lt (Nat.le_of_eq g35.symm))
    have f38 := (V25.ext E29)
    have ne_b25_b35 : b25 ≠ b35 := Nat.ne_of_lt (Nat.lt_of_lt_of_le f38.lt (Nat.le_of_eq g35.symm))
    have ne_b29_b35 : b29 ≠ b35 := Nat.ne_of_lt (Nat.lt_of_lt_of_le A29.lt (Nat.le_of_eq g35.symm))
    have f39 := (f32.ext E29)
    have ne_b3_b35 : b3 ≠ b35 := Nat.ne_of_lt (Nat.lt_of_lt_of_le f39.lt (Nat.le_of_eq g35.symm))
    have f40 := (f33.ext E29)
    have ne_b4_b35 : b4 ≠ b35 := Nat.ne_of_lt (Nat.lt_of_lt_of_le f40.lt (Nat.le_of_eq g35.symm))
    have f41 := (f34.ext E29)
    have ne_b8_b35 : b8 ≠ b35 := Nat.ne_of_lt (Nat.lt_of_lt_of_le f41.lt (Nat.le_of_eq g35.symm))
    have ge_b35 : n0 ≤ b35 := Nat.le_trans Z29 (Nat.le_of_eq g35.symm)
    have sz_b35 : h0.size ≤ b35 := Nat.le_trans K29.1 (Nat.le_of_eq g35.symm)
    have Z35 : n0 ≤ h35.size := Nat.le_trans Z29 E35.1
    have K35 : Keep h0 h35 [] := K29.ext E35
    have V35 : Arv Z h35 b35 k35 .char (2 : Int32) [(.int (0 : Int32)), (.int (0 : Int32))] (.int (0 : Int32)) := (Arv.new A35 (by decide)).pad (pad_rep [] (.int (0 : Int32)) 2)
    obtain ⟨cl42, Ar42, qk42, Sz42, Ng42, Hs42, Gs42⟩ := id V35
    have hin42 : ¬ ((0 : Int32) < 0 ∨ cl42.slots.size ≤ ((0 : Int32)).toNatClampNeg) := inb_of Sz42 ⟨by decide, by decide⟩
    obtain ⟨T43, h43, X43, e43, W43, st43⟩ := stC X35 hx hZ e35 Ar42 (j := (0 : Int32)) hin42 (g := (mkF m 127 #[iv p0, iv p1, iv p2, iv p3, iv (((1 : Int32) + (1 : Int32))), iv (0 : Int32), iv (1 : Int32), rv b3, rv b11, .unset, .unset, .unset, .unset, .unset, .unset] [(.int ((p2 &&& (255 : Int32))).toUInt32.toUInt16.toUInt32.toInt32), (.int (0 : Int32)), (.ref b35), (.ref b35), (.ref b29), (.ref b29)])) rfl rfl (hb hby at_127)
    have N43 := Fr.snoc X43 N25 ge_b35
    have Z43 : n0 ≤ h43.size := Nat.le_trans Z35 (Nat.le_of_eq W43.size.symm)
    have K43 : Keep h0 h43 [] := K35.wr W43 (Or.inr sz_b35)
    have V43 : Arv Z h43 b35 k35 .char (2 : Int32) [(.int (nar .char ((p2 &&& (255 : Int32))).toUInt32.toUInt16.toUInt32.toInt32)), (.int (0 : Int32))] (.int (0 : Int32)) := Arv.set Ar42 qk42 Sz42 Ng42 Hs42 Gs42 (fits_nar_char _) W43 0 rfl (Nat.le_of_ble_eq_true rfl)
    obtain ⟨cl44, Ar44, qk44, Sz44, Ng44, Hs44, Gs44⟩ := id V43
    have hin44 : ¬ ((1 : Int32) < 0 ∨ cl44.slots.size ≤ ((1 : Int32)).toNatClampNeg) := inb_of Sz44 ⟨by decide, by decide⟩
    obtain ⟨T45, h45, X45, e45, W45, st45⟩ := stC X43 hx hZ e43 Ar44 (j := (1 : Int32)) hin44 (g := (mkF m 132 #[iv p0, iv p1, iv p2, iv p3, iv (((1 : Int32) + (1 : Int32))), iv (0 : Int32), iv (1 : Int32), rv b3, rv b11, .unset, .unset, .unset, .unset, .unset, .unset] [(.int (99 : Int32)), (.int (1 : Int32)), (.ref b35), (.ref b35), (.ref b29), (.ref b29)])) rfl rfl (hb hby at_132)
    have N45 := Fr.snoc X45 N43 ge_b35
    have Z45 : n0 ≤ h45.size := Nat.le_trans Z43 (Nat.le_of_eq W45.size.symm)
    have K45 : Keep h0 h45 [] := K43.wr W45 (Or.inr sz_b35)
    have V45 : Arv Z h45 b35 k35 .char (2 : Int32) [(.int (nar .char ((p2 &&& (255 : Int32))).toUInt32.toUInt16.toUInt32.toInt32)), (.int (nar .char (99 : Int32)))] (.int (0 : Int32)) := Arv.set Ar44 qk44 Sz44 Ng44 Hs44 Gs44 (fits_nar_char _) W45 1 rfl (Nat.le_of_ble_eq_true rfl)
    have f46 := (((A29.ext E35).wr W43).wr W45)
    have f47 := (((F29_value.ext E35).other W43 (Or.inl ne_b29_b35)).other W45 (Or.inl ne_b29_b35))
    have f48 := (((F29_coder.ext E35).other W43 (Or.inl ne_b29_b35)).other W45 (Or.inl ne_b29_b35))
    have f49 := (((((own_stak f24 K25 (allS (own_exns f21) all0)).ext E29).ext E35).wr W43).wr W45)
    obtain ⟨_, T50, Lc50, X50, hQ50, st50⟩ := own_special (W := 1) (y := mN4) X45 hx hZ rfl hown (hw _ (List.mem_of_getElem? (i := 5) rfl)) (hw _ (List.mem_of_getElem? (i := 6) rfl)) (hw _ (List.mem_of_getElem? (i := 7) rfl)) (hw _ (List.mem_of_getElem? (i := 3) rfl)) (by decide) (rmSi2_2 l Z av0 hw [] b29 b35 k35 wC (nar .char ((p2 &&& (255 : Int32))).toUInt32.toUInt16.toUInt32.toInt32) (nar .char (99 : Int32)) h45 n0 Z45 f46 f47 f48 ge_b29 V45 f49 hw0 (own_ch p2) (by decide)) (by decide) (by decide) (g := (mkF m 133 #[iv p0, iv p1, iv p2, iv p3, iv (((1 : Int32) + (1 : Int32))), iv (0 : Int32), iv (1 : Int32), rv b3, rv b11, .unset, .unset, .unset, .unset, .unset, .unset] [(.ref b35), (.ref b29), (.ref b29)])) rfl (by rw [hml]; rfl) (a := b29) (argsL := [(.ref b35)]) (rest := [(.ref b29)]) (lenOf pd__C_V rfl) rfl (by show 2 * 0 + _ ≤ _; exact Nat.le_of_eq rfl) (hb hby at_133) rfl e45 (by decide : 9 + 1 ≤ _) (by decide : 22 + 2 ≤ _)
    obtain ⟨rfl, N50q, K50, FC50, b50, kb50, FV50, V50, gb50⟩ := hQ50
    have N50 := Fr.app N45 N50q
    have e50 : T50.heap = T50.heap := rfl
    have f51 := (((f36.ext E35).wr W43).wr W45)
    have ne_b11_b50 : b11 ≠ b50 := Nat.ne_of_lt (Nat.lt_of_lt_of_le f51.lt gb50)
    have f52 := (((f37.ext E35).other W43 ne_b13_b35).other W45 ne_b13_b35)
    have ne_b13_b50 : b13 ≠ b50 := Nat.ne_of_lt (Nat.lt_of_lt_of_le f52.lt gb50)
    have f53 := (((f38.ext E35).other W43 ne_b25_b35).other W45 ne_b25_b35)
    have ne_b25_b50 : b25 ≠ b50 := Nat.ne_of_lt (Nat.lt_of_lt_of_le f53.lt gb50)
    have ne_b29_b50 : b29 ≠ b50 := Nat.ne_of_lt (Nat.lt_of_lt_of_le f46.lt gb50)
    have f54 := (((f39.ext E35).wr W43).wr W45)
    have ne_b3_b50 : b3 ≠ b50 := Nat.ne_of_lt (Nat.lt_of_lt_of_le f54.lt gb50)
    have ne_b35_b50 : b35 ≠ b50 := Nat.ne_of_lt (Nat.lt_of_lt_of_le V45.lt gb50)
    have f55 := (((f40.ext E35).other W43 ne_b4_b35).other W45 ne_b4_b35)
    have ne_b4_b50 : b4 ≠ b50 := Nat.ne_of_lt (Nat.lt_of_lt_of_le f55.lt gb50)
    have f56 := (((f41.ext E35).other W43 ne_b8_b35).other W45 ne_b8_b35)
    have ne_b8_b50 : b8 ≠ b50 := Nat.ne_of_lt (Nat.lt_of_lt_of_le f56.lt gb50)
    have ge_b50 : n0 ≤ b50 := Nat.le_trans Z45 gb50
    have sz_b50 : h0.size ≤ b50 := Nat.le_trans K45.1 gb50
    have Zk50 : n0 ≤ T50.heap.size := Nat.le_trans Z45 K50.1
    have Kk50 : Keep h0 T50.heap [] := K45.trans K50 (allS (Or.inr sz_b29) all0)
    obtain ⟨T57, h57, k57, X57, e57, E57, A57, O57, st57⟩ := newR X50 hx hZ hown (hw _ (List.mem_of_getElem? (i := 1) rfl)) (hw _ (List.mem_of_getElem? (i := 31) rfl)) e50 (g := (mkF m 140 #[iv p0, iv p1, iv p2, iv p3, iv (((1 : Int32) + (1 : Int32))), iv (0 : Int32), iv (1 : Int32), rv b3, rv b11, rv b29, .unset, .unset, .unset, .unset, .unset] [(.int ((1 : Int32) + (1 : Int32)))])) rfl (hb hby at_140) rfl (by decide) (cap := 2) (by decide) (by decide) (by decide) (by decide)
    obtain ⟨b57, g57⟩ : ∃ z, z = T50.heap.size := ⟨_, rfl⟩
    rw [← g57] at A57 st57
    have f58 := (f51.keep K50)
    have ne_b11_b57 : b11 ≠ b57 := Nat.ne_of_lt (Nat.lt_of_lt_of_le f58.lt (Nat.le_of_eq g57.symm))
    have f59 := (f52.keep K50 (ninS ne_b13_b29 nin0))
    have ne_b13_b57 : b13 ≠ b57 := Nat.ne_of_lt (Nat.lt_of_lt_of_le f59.lt (Nat.le_of_eq g57.symm))
    have f60 := (f53.keep K50 (ninS ne_b25_b29 nin0))
    have ne_b25_b57 : b25 ≠ b57 := Nat.ne_of_lt (Nat.lt_of_lt_of_le f60.lt (Nat.le_of_eq g57.symm))
    have f61 := (f46.keep K50)
    have ne_b29_b57 : b29 ≠ b57 := Nat.ne_of_lt (Nat.lt_of_lt_of_le f61.lt (Nat.le_of_eq g57.symm))
    have f62 := (f54.keep K50)
    have ne_b3_b57 : b3 ≠ b57 := Nat.ne_of_lt (Nat.lt_of_lt_of_le f62.lt (Nat.le_of_eq g57.symm))
    have f63 := (V45.keep K50 (ninS (Ne.symm ne_b29_b35) nin0))
    have ne_b35_b57 : b35 ≠ b57 := Nat.ne_of_lt (Nat.lt_of_lt_of_le f63.lt (Nat.le_of_eq g57.symm))
    have f64 := (f55.keep K50 (ninS ne_b4_b29 nin0))
    have ne_b4_b57 : b4 ≠ b57 := Nat.ne_of_lt (Nat.lt_of_lt_of_le f64.lt (Nat.le_of_eq g57.symm))
    have ne_b50_b57 : b50 ≠ b57 := Nat.ne_of_lt (Nat.lt_of_lt_of_le V50.lt (Nat.le_of_eq g57.symm))
    have f65 := (f56.keep K50 (ninS ne_b8_b29 nin0))
    have ne_b8_b57 : b8 ≠ b57 := Nat.ne_of_lt (Nat.lt_of_lt_of_le f65.lt (Nat.le_of_eq g57.symm))
    have ge_b57 : n0 ≤ b57 := Nat.le_trans Zk50 (Nat.le_of_eq g57.symm)
    have sz_b57 : h0.size ≤ b57 := Nat.le_trans Kk50.1 (Nat.le_of_eq g57.symm)
    have Z57 : n0 ≤ h57.size := Nat.le_trans Zk50 E57.1
    have K57 : Keep h0 h57 [] := Kk50.ext E57
    have V57 : Arv Z h57 b57 k57 (.object "java/lang/String") ((1 : Int32) + (1 : Int32)) [.null, .null] .null := (Arv.new A57 (by decide)).pad (pad_rep [] .null 2)
    obtain ⟨cl66, Ar66, qk66, Sz66, Ng66, Hs66, Gs66⟩ := id V57
    have hin66 : ¬ ((0 : Int32) < 0 ∨ cl66.slots.size ≤ ((0 : Int32)).toNatClampNeg) := inb_of Sz66 ⟨by decide, by decide⟩
    have f67 := (f62.ext E57)
    obtain ⟨T68, h68, X68, e68, W68, st68⟩ := stR X57 hx hZ e57 Ar66 (j := (0 : Int32)) hin66 rfl (Sto.ofV Ar66 qk66 O57 (Ins.self f67)) (g := (mkF m 150 #[iv p0, iv p1, iv p2, iv p3, iv (((1 : Int32) + (1 : Int32))), iv (0 : Int32), iv (1 : Int32), rv b3, rv b11, rv b29, rv b57, .unset, .unset, .unset, .unset] [(.ref b3), (.int (0 : Int32)), (.ref b57)])) rfl rfl (hb hby at_150)
    have N68 := Fr.snoc X68 N50 ge_b57
    have Z68 : n0 ≤ h68.size := Nat.le_trans Z57 (Nat.le_of_eq W68.size.symm)
    have K68 : Keep h0 h68 [] := K57.wr W68 (Or.inr sz_b57)
    have V68 : Arv Z h68 b57 k57 (.object "java/lang/String") ((1 : Int32) + (1 : Int32)) [(.ref b3), .null] .null := Arv.set Ar66 qk66 Sz66 Ng66 Hs66 Gs66 rfl W68 0 rfl (Nat.le_of_ble_eq_true rfl)
    obtain ⟨cl69, Ar69, qk69, Sz69, Ng69, Hs69, Gs69⟩ := id V68
    have hin69 : ¬ ((1 : Int32) < 0 ∨ cl69.slots.size ≤ ((1 : Int32)).toNatClampNeg) := inb_of Sz69 ⟨by decide, by decide⟩
    have f70 := ((f58.ext E57).wr W68)
    obtain ⟨T71, h71, X71, e71, W71, st71⟩ := stR X68 hx hZ e68 Ar69 (j := (1 : Int32)) hin69 rfl (Sto.ofV Ar69 qk69 O57 (Ins.self f70)) (g := (mkF m 162 #[iv p0, iv p1, iv p2, iv p3, iv (((1 : Int32) + (1 : Int32))), iv (0 : Int32), iv (1 : Int32), rv b3, rv b11, rv b29, rv b57, .unset, .unset, .unset, .unset] [(.ref b11), (.int (1 : Int32)), (.ref b57)])) rfl rfl (hb hby at_162)
    have N71 := Fr.snoc X71 N68 ge_b57
    have Z71 : n0 ≤ h71.size := Nat.le_trans Z68 (Nat.le_of_eq W71.size.symm)
    have K71 : Keep h0 h71 [] := K68.wr W71 (Or.inr sz_b57)
    have V71 : Arv Z h71 b57 k57 (.object "java/lang/String") ((1 : Int32) + (1 : Int32)) [(.ref b3), (.ref b11)] .null := Arv.set Ar69 qk69 Sz69 Ng69 Hs69 Gs69 rfl W71 1 rfl (Nat.le_of_ble_eq_true rfl)
    obtain ⟨T72, h72, X72, e72, E72, A72, D72, -, st72⟩ := newO X71 hx hZ hown (hw _ (List.mem_of_getElem? (i := 32) rfl)) (hw _ (List.mem_of_getElem? (i := 33) rfl)) (hw _ (List.mem_of_getElem? (i := 34) rfl)) e71 (g := (mkF m 175 #[iv p0, iv p1, iv p2, iv p3, iv (((1 : Int32) + (1 : Int32))), iv (0 : Int32), iv (1 : Int32), rv b3, rv b11, rv b29, rv b57, .unset, .unset, .unset, .unset] [])) rfl (hb hby at_175) (by decide) (by decide)
    obtain ⟨b72, g72⟩ : ∃ z, z = h71.size := ⟨_, rfl⟩
    rw [← g72] at A72 D72 st72
    have f73 := (f70.wr W71)
    have ne_b11_b72 : b11 ≠ b72 := Nat.ne_of_lt (Nat.lt_of_lt_of_le f73.lt (Nat.le_of_eq g72.symm))
    have f74 := (((f59.ext E57).other W68 ne_b13_b57).other W71 ne_b13_b57)
    have ne_b13_b72 : b13 ≠ b72 := Nat.ne_of_lt (Nat.lt_of_lt_of_le f74.lt (Nat.le_of_eq g72.symm))
    have f75 := (((f60.ext E57).other W68 ne_b25_b57).other W71 ne_b25_b57)
    have ne_b25_b72 : b25 ≠ b72 := Nat.ne_of_lt (Nat.lt_of_lt_of_le f75.lt (Nat.le_of_eq g72.symm))
    have f76 := (((f61.ext E57).wr W68).wr W71)
    have ne_b29_b72 : b29 ≠ b72 := Nat.ne_of_lt (Nat.lt_of_lt_of_le f76.lt (Nat.le_of_eq g72.symm))
    have f77 := ((f67.wr W68).wr W71)
    have ne_b3_b72 : b3 ≠ b72 := Nat.ne_of_lt (Nat.lt_of_lt_of_le f77.lt (Nat.le_of_eq g72.symm))
    have f78 := (((f63.ext E57).other W68 ne_b35_b57).other W71 ne_b35_b57)
    have ne_b35_b72 : b35 ≠ b72 := Nat.ne_of_lt (Nat.lt_of_lt_of_le f78.lt (Nat.le_of_eq g72.symm))
    have f79 := (((f64.ext E57).other W68 ne_b4_b57).other W71 ne_b4_b57)
    have ne_b4_b72 : b4 ≠ b72 := Nat.ne_of_lt (Nat.lt_of_lt_of_le f79.lt (Nat.le_of_eq g72.symm))
    have f80 := (((V50.ext E57).other W68 ne_b50_b57).other W71 ne_b50_b57)
    have ne_b50_b72 : b50 ≠ b72 := Nat.ne_of_lt (Nat.lt_of_lt_of_le f80.lt (Nat.le_of_eq g72.symm))
    have ne_b57_b72 : b57 ≠ b72 := Nat.ne_of_lt (Nat.lt_of_lt_of_le V71.lt (Nat.le_of_eq g72.symm))
    have f81 := (((f65.ext E57).other W68 ne_b8_b57).other W71 ne_b8_b57)
    have ne_b8_b72 : b8 ≠ b72 := Nat.ne_of_lt (Nat.lt_of_lt_of_le f81.lt (Nat.le_of_eq g72.symm))
    have ge_b72 : n0 ≤ b72 := Nat.le_trans Z71 (Nat.le_of_eq g72.symm)
    have sz_b72 : h0.size ≤ b72 := Nat.le_trans K71.1 (Nat.le_of_eq g72.symm)
    have Z72 : n0 ≤ h72.size := Nat.le_trans Z71 E72.1
    have K72 : Keep h0 h72 [] := K71.ext E72
    have F72_arguments : Fld Z h72 b72 "com/example/steady_courier/steadycourier/OptionReader" "arguments" "[Ljava/lang/String;" .null := D72 (Or.inr (hw _ (List.mem_of_getElem? (i := 40) rfl))) (ty := (.array (.object "java/lang/String"))) (by decide)
    have F72_next : Fld Z h72 b72 "com/example/steady_courier/steadycourier/OptionReader" "next" "I" (.int (0 : Int32)) := D72 (Or.inl (hw _ (List.mem_of_getElem? (i := 47) rfl))) (ty := .int) (by decide)
    obtain ⟨_, T82, Lc82, X82, hQ82, st82⟩ := own_special (W := 1) (y := mN5) X72 hx hZ rfl hown (hw _ (List.mem_of_getElem? (i := 35) rfl)) (hw _ (List.mem_of_getElem? (i := 36) rfl)) (hw _ (List.mem_of_getElem? (i := 37) rfl)) (hw _ (List.mem_of_getElem? (i := 34) rfl)) (by decide) (rmInit l Z av0 hw [] b72 b57 h72 n0 Z72 A72 F72_arguments F72_next ge_b72) (by decide) (by decide) (g := (mkF m 181 #[iv p0, iv p1, iv p2, iv p3, iv (((1 : Int32) + (1 : Int32))), iv (0 : Int32), iv (1 : Int32), rv b3, rv b11, rv b29, rv b57, .unset, .unset, .unset, .unset] [(.ref b57), (.ref b72), (.ref b72)])) rfl (by rw [hml]; rfl) (a := b72) (argsL := [(.ref b57)]) (rest := [(.ref b72)]) (lenOf pd__Ljava_lang_String_V rfl) rfl (by show 2 * 0 + _ ≤ _; exact Nat.le_of_eq rfl) (hb hby at_181) rfl e72 (by decide : 12 + 0 ≤ _) (by decide : 28 + 0 ≤ _)
    obtain ⟨rfl, N82q, K82, FA82, FN82⟩ := hQ82
    have N82 := Fr.app N71 N82q
    have e82 : T82.heap = T82.heap := rfl
    have Zk82 : n0 ≤ T82.heap.size := Nat.le_trans Z72 K82.1
    have Kk82 : Keep h0 T82.heap [] := K72.trans K82 (allS (Or.inr sz_b72) all0)
    have f83 := ((V71.ext E72).keep K82 (ninS ne_b57_b72 nin0))
    have f85 := (A72.keep K82)
    obtain ⟨_, T84, Lc84, X84, hQ84, st84⟩ := own_virtual (W := 0) (y := mN6) (z := mN6) X82 hx hZ hown (hw _ (List.mem_of_getElem? (i := 41) rfl)) (hw _ (List.mem_of_getElem? (i := 42) rfl)) (notFace_of_selects (args := #[]) (mvT hZ (hw _ (List.mem_of_getElem? (i := 44) rfl)))) (hw _ (List.mem_of_getElem? (i := 44) rfl)) (hw _ (List.mem_of_getElem? (i := 43) rfl)) (hw _ (List.mem_of_getElem? (i := 45) rfl)) (hw _ (List.mem_of_getElem? (i := 34) rfl)) (by decide) (rmHas l Z av0 hw [] b72 b57 k57 ((1 : Int32) + (1 : Int32)) [(.ref b3), (.ref b11)] (0 : Int32) T82.heap n0 Zk82 FA82 FN82 f83) (by decide) (by decide) f85 (g := (mkF m 188 #[iv p0, iv p1, iv p2, iv p3, iv (((1 : Int32) + (1 : Int32))), iv (0 : Int32), iv (1 : Int32), rv b3, rv b11, rv b29, rv b57, rv b72, .unset, .unset, .unset] [(.ref b72)])) rfl (by rw [hml]; rfl) (argsL := []) (rest := []) (lenOf pd__Z rfl) rfl (by show 2 * 0 + _ ≤ _; exact Nat.le_of_eq rfl) (hb hby at_188) rfl e82 (by decide : 12 + 0 ≤ _) (by decide : 28 + 0 ≤ _)
    obtain ⟨rfl, N84q, hh84⟩ := hQ84
    have N84 := Fr.app N82 N84q
    have e84 : T84.heap = T82.heap := hh84
    obtain ⟨_, T86, Lc86, X86, hQ86, st86⟩ := own_virtual (W := 0) (y := mN7) (z := mN7) X84 hx hZ hown (hw _ (List.mem_of_getElem? (i := 48) rfl)) (hw _ (List.mem_of_getElem? (i := 49) rfl)) (notFace_of_selects (args := #[]) (mvT hZ (hw _ (List.mem_of_getElem? (i := 51) rfl)))) (hw _ (List.mem_of_getElem? (i := 51) rfl)) (hw _ (List.mem_of_getElem? (i := 50) rfl)) (hw _ (List.mem_of_getElem? (i := 52) rfl)) (hw _ (List.mem_of_getElem? (i := 34) rfl)) (by decide) (rmOpt l Z av0 hw [] b72 b57 k57 ((1 : Int32) + (1 : Int32)) [(.ref b3), (.ref b11)] (0 : Int32) b3 T82.heap n0 Zk82 FA82 FN82 f83 f85 ge_b72 (Ne.symm ne_b57_b72) (by decide) rfl) (by decide) (by decide) f85 (g := (mkF m 198 #[iv p0, iv p1, iv p2, iv p3, iv (((1 : Int32) + (1 : Int32))), iv (0 : Int32), iv (1 : Int32), rv b3, rv b11, rv b29, rv b57, rv b72, .unset, .unset, .unset] [(.ref b72)])) rfl (by rw [hml]; rfl) (argsL := []) (rest := []) (lenOf pd__Ljava_lang_String_ rfl) rfl (by show 2 * 0 + _ ≤ _; exact Nat.le_of_eq rfl) (hb hby at_198) rfl e84 (by decide : 12 + 0 ≤ _) (by decide : 28 + 0 ≤ _)
    obtain ⟨rfl, N86q, K86, FN86, FA86⟩ := hQ86
    have N86 := Fr.app N84 N86q
    have e86 : T86.heap = T86.heap := rfl
    have Zk86 : n0 ≤ T86.heap.size := Nat.le_trans Zk82 K86.1
    have Kk86 : Keep h0 T86.heap [] := Kk82.trans K86 (allS (Or.inr sz_b72) all0)
    have f88 := (((f77.ext E72).keep K82).keep K86)
    obtain ⟨_, T87, Lc87, X87, hQ87, st87⟩ := own_virtual (W := 0) (y := mN9) (z := mN9) X86 hx hZ hown (hw _ (List.mem_of_getElem? (i := 53) rfl)) (hw _ (List.mem_of_getElem? (i := 54) rfl)) (notFace_of_selects (args := #[]) (mvT hZ (hw _ (List.mem_of_getElem? (i := 56) rfl)))) (hw _ (List.mem_of_getElem? (i := 56) rfl)) (hw _ (List.mem_of_getElem? (i := 55) rfl)) (hw _ (List.mem_of_getElem? (i := 57) rfl)) (hw _ (List.mem_of_getElem? (i := 3) rfl)) (by decide) (rmSame l Z av0 hw [] b3 T86.heap n0 Zk86 ) (by decide) (by decide) f88 (g := (mkF m 207 #[iv p0, iv p1, iv p2, iv p3, iv (((1 : Int32) + (1 : Int32))), iv (0 : Int32), iv (1 : Int32), rv b3, rv b11, rv b29, rv b57, rv b72, rv b3, .unset, .unset] [(.ref b3), (.ref b3)])) rfl (by rw [hml]; rfl) (argsL := [(.ref b3)]) (rest := []) (lenOf pd__Ljava_lang_Object_Z rfl) rfl (by show 2 * 0 + _ ≤ _; exact Nat.le_of_eq rfl) (hb hby at_207) rfl e86 (by decide : 12 + 0 ≤ _) (by decide : 28 + 0 ≤ _)
    obtain ⟨rfl, N87q, hh87⟩ := hQ87
    have N87 := Fr.app N86 N87q
    have e87 : T87.heap = T86.heap := hh87
    have f89 := (f83.keep K86 (ninS ne_b57_b72 nin0))
    have f91 := (f85.keep K86)
    obtain ⟨_, T90, Lc90, X90, hQ90, st90⟩ := own_virtual (W := 0) (y := mN6) (z := mN6) X87 hx hZ hown (hw _ (List.mem_of_getElem? (i := 41) rfl)) (hw _ (List.mem_of_getElem? (i := 42) rfl)) (notFace_of_selects (args := #[]) (mvT hZ (hw _ (List.mem_of_getElem? (i := 44) rfl)))) (hw _ (List.mem_of_getElem? (i := 44) rfl)) (hw _ (List.mem_of_getElem? (i := 43) rfl)) (hw _ (List.mem_of_getElem? (i := 45) rfl)) (hw _ (List.mem_of_getElem? (i := 34) rfl)) (by decide) (rmHas l Z av0 hw [] b72 b57 k57 ((1 : Int32) + (1 : Int32)) [(.ref b3), (.ref b11)] ((0 : Int32) + (1 : Int32)) T86.heap n0 Zk86 FA86 FN86 f89) (by decide) (by decide) f91 (g := (mkF m 217 #[iv p0, iv p1, iv p2, iv p3, iv (((1 : Int32) + (1 : Int32))), iv (0 : Int32), iv (1 : Int32), rv b3, rv b11, rv b29, rv b57, rv b72, rv b3, .unset, .unset] [(.ref b72)])) rfl (by rw [hml]; rfl) (argsL := []) (rest := []) (lenOf pd__Z rfl) rfl (by show 2 * 0 + _ ≤ _; exact Nat.le_of_eq rfl) (hb hby at_217) rfl e87 (by decide : 12 + 0 ≤ _) (by decide : 28 + 0 ≤ _)
    obtain ⟨rfl, N90q, hh90⟩ := hQ90
    have N90 := Fr.app N87 N90q
    have e90 : T90.heap = T86.heap := hh90
    obtain ⟨_, T92, Lc92, X92, hQ92, st92⟩ := own_virtual (W := 0) (y := mN7) (z := mN7) X90 hx hZ hown (hw _ (List.mem_of_getElem? (i := 48) rfl)) (hw _ (List.mem_of_getElem? (i := 49) rfl)) (notFace_of_selects (args := #[]) (mvT hZ (hw _ (List.mem_of_getElem? (i := 51) rfl)))) (hw _ (List.mem_of_getElem? (i := 51) rfl)) (hw _ (List.mem_of_getElem? (i := 50) rfl)) (hw _ (List.mem_of_getElem? (i := 52) rfl)) (hw _ (List.mem_of_getElem? (i := 34) rfl)) (by decide) (rmOpt l Z av0 hw [] b72 b57 k57 ((1 : Int32) + (1 : Int32)) [(.ref b3), (.ref b11)] ((0 : Int32) + (1 : Int32)) b11 T86.heap n0 Zk86 FA86 FN86 f89 f91 ge_b72 (Ne.symm ne_b57_b72) (by decide) rfl) (by decide) (by decide) f91 (g := (mkF m 261 #[iv p0, iv p1, iv p2, iv p3, iv (((1 : Int32) + (1 : Int32))), iv (0 : Int32), iv (1 : Int32), rv b3, rv b11, rv b29, rv b57, rv b72, rv b3, .unset, .unset] [(.ref b72)])) rfl (by rw [hml]; rfl) (argsL := []) (rest := []) (lenOf pd__Ljava_lang_String_ rfl) rfl (by show 2 * 0 + _ ≤ _; exact Nat.le_of_eq rfl) (hb hby at_261) rfl e90 (by decide : 12 + 0 ≤ _) (by decide : 28 + 0 ≤ _)
    obtain ⟨rfl, N92q, K92, FN92, FA92⟩ := hQ92
    have N92 := Fr.app N90 N92q
    have e92 : T92.heap = T92.heap := rfl
    have Zk92 : n0 ≤ T92.heap.size := Nat.le_trans Zk86 K92.1
    have Kk92 : Keep h0 T92.heap [] := Kk86.trans K92 (allS (Or.inr sz_b72) all0)
    have f94 := ((((f73.ext E72).keep K82).keep K86).keep K92)
    obtain ⟨_, T93, Lc93, X93, hQ93, st93⟩ := own_virtual (W := 0) (y := mN9) (z := mN9) X92 hx hZ hown (hw _ (List.mem_of_getElem? (i := 53) rfl)) (hw _ (List.mem_of_getElem? (i := 54) rfl)) (notFace_of_selects (args := #[]) (mvT hZ (hw _ (List.mem_of_getElem? (i := 56) rfl)))) (hw _ (List.mem_of_getElem? (i := 56) rfl)) (hw _ (List.mem_of_getElem? (i := 55) rfl)) (hw _ (List.mem_of_getElem? (i := 57) rfl)) (hw _ (List.mem_of_getElem? (i := 3) rfl)) (by decide) (rmSame l Z av0 hw [] b11 T92.heap n0 Zk92 ) (by decide) (by decide) f94 (g := (mkF m 270 #[iv p0, iv p1, iv p2, iv p3, iv (((1 : Int32) + (1 : Int32))), iv (0 : Int32), iv (1 : Int32), rv b3, rv b11, rv b29, rv b57, rv b72, rv b3, rv b11, .unset] [(.ref b11), (.ref b11)])) rfl (by rw [hml]; rfl) (argsL := [(.ref b11)]) (rest := []) (lenOf pd__Ljava_lang_Object_Z rfl) rfl (by show 2 * 0 + _ ≤ _; exact Nat.le_of_eq rfl) (hb hby at_270) rfl e92 (by decide : 12 + 0 ≤ _) (by decide : 28 + 0 ≤ _)
    obtain ⟨rfl, N93q, hh93⟩ := hQ93
    have N93 := Fr.app N92 N93q
    have e93 : T93.heap = T92.heap := hh93
    have f95 := (f89.keep K92 (ninS ne_b57_b72 nin0))
    have f97 := (f91.keep K92)
    obtain ⟨_, T96, Lc96, X96, hQ96, st96⟩ := own_virtual (W := 0) (y := mN6) (z := mN6) X93 hx hZ hown (hw _ (List.mem_of_getElem? (i := 41) rfl)) (hw _ (List.mem_of_getElem? (i := 42) rfl)) (notFace_of_selects (args := #[]) (mvT hZ (hw _ (List.mem_of_getElem? (i := 44) rfl)))) (hw _ (List.mem_of_getElem? (i := 44) rfl)) (hw _ (List.mem_of_getElem? (i := 43) rfl)) (hw _ (List.mem_of_getElem? (i := 45) rfl)) (hw _ (List.mem_of_getElem? (i := 34) rfl)) (by decide) (rmHas l Z av0 hw [] b72 b57 k57 ((1 : Int32) + (1 : Int32)) [(.ref b3), (.ref b11)] (((0 : Int32) + (1 : Int32)) + (1 : Int32)) T92.heap n0 Zk92 FA92 FN92 f95) (by decide) (by decide) f97 (g := (mkF m 280 #[iv p0, iv p1, iv p2, iv p3, iv (((1 : Int32) + (1 : Int32))), iv (0 : Int32), iv (1 : Int32), rv b3, rv b11, rv b29, rv b57, rv b72, rv b3, rv b11, .unset] [(.ref b72)])) rfl (by rw [hml]; rfl) (argsL := []) (rest := []) (lenOf pd__Z rfl) rfl (by show 2 * 0 + _ ≤ _; exact Nat.le_of_eq rfl) (hb hby at_280) rfl e93 (by decide : 12 + 0 ≤ _) (by decide : 28 + 0 ≤ _)
    obtain ⟨rfl, N96q, hh96⟩ := hQ96
    have N96 := Fr.app N93 N96q
    have e96 : T96.heap = T92.heap := hh96
    have S98 : ∀ t, Steps p.tables e below (T96.setTop (mkF m 306 #[iv p0, iv p1, iv p2, iv p3, iv (((1 : Int32) + (1 : Int32))), iv (0 : Int32), iv (1 : Int32), rv b3, rv b11, rv b29, rv b57, rv b72, rv b3, rv b11, .unset] [(.int (1 : Int32))])) t → Steps p.tables e below (s₁.setTop (mkF m 0 #[iv p0, iv p1, iv p2, iv p3, .unset, .unset, .unset, .unset, .unset, .unset, .unset, .unset, .unset, .unset, .unset] [])) t := fun t k => S9 t (by
      show Steps p.tables e below (T4.setTop (mkF m 54 #[iv p0, iv p1, iv p2, iv p3, iv (((1 : Int32) + (1 : Int32))), iv (0 : Int32), iv (1 : Int32), .unset, .unset, .unset, .unset, .unset, .unset, .unset, .unset] [(.ref b4), (.ref b3), (.ref b3)])) _
      refine st8 _ ?_
      refine XS.goto X8.here hx rfl (pc0 := 57) (pc' := 84) rfl (hb hby at_57) (by decide) (by decide) ?_
      refine XS.astore X8.here hx rfl (hb hby at_84) rfl rfl (l' := #[iv p0, iv p1, iv p2, iv p3, iv (((1 : Int32) + (1 : Int32))), iv (0 : Int32), iv (1 : Int32), rv b3, .unset, .unset, .unset, .unset, .unset, .unset, .unset]) rfl ?_
      show Steps p.tables e below (T8.setTop (mkF m 86 #[iv p0, iv p1, iv p2, iv p3, iv (((1 : Int32) + (1 : Int32))), iv (0 : Int32), iv (1 : Int32), rv b3, .unset, .unset, .unset, .unset, .unset, .unset, .unset] [])) _
      refine st11 _ ?_
      refine XS.dup X11.here hx rfl (hb hby at_89) rfl rfl ?_
      refine XT.iconstV X11.here hx rfl (2 : Int32) (hb hby at_90) (by decide) ?_
      refine st13 _ ?_
      refine XS.dup X13.here hx rfl (hb hby at_93) rfl rfl ?_
      refine XT.iconstV X13.here hx rfl (0 : Int32) (hb hby at_94) (by decide) ?_
      show Steps p.tables e below (T13.setTop (mkF m 95 #[iv p0, iv p1, iv p2, iv p3, iv (((1 : Int32) + (1 : Int32))), iv (0 : Int32), iv (1 : Int32), rv b3, .unset, .unset, .unset, .unset, .unset, .unset, .unset] [(.int (0 : Int32)), (.ref b13), (.ref b13), (.ref b11), (.ref b11)])) _
      refine XS.iloadN X13.here hx rfl (hb hby at_95) rfl ?_
      refine XT.sipushV X13.here hx rfl (255 : Int32) (hb hby at_96) (by decide) ?_
      refine XS.iand X13.here hx rfl (hb hby at_99) rfl ?_
      refine XT.i2c X13.here hx rfl (hb hby at_100) rfl ?_
      refine st18 _ ?_
      refine XS.dup X18.here hx rfl (hb hby at_102) rfl rfl ?_
      show Steps p.tables e below (T18.setTop (mkF m 103 #[iv p0, iv p1, iv p2, iv p3, iv (((1 : Int32) + (1 : Int32))), iv (0 : Int32), iv (1 : Int32), rv b3, .unset, .unset, .unset, .unset, .unset, .unset, .unset] [(.ref b13), (.ref b13), (.ref b11), (.ref b11)])) _
      refine XT.iconstV X18.here hx rfl (1 : Int32) (hb hby at_103) (by decide) ?_
      refine XT.bipushV X18.here hx rfl (98 : Int32) (hb hby at_104) (by decide) ?_
      refine st20 _ ?_
      refine st25 _ ?_
      refine XS.astore X25.here hx rfl (hb hby at_110) rfl rfl (l' := #[iv p0, iv p1, iv p2, iv p3, iv (((1 : Int32) + (1 : Int32))), iv (0 : Int32), iv (1 : Int32), rv b3, rv b11, .unset, .unset, .unset, .unset, .unset, .unset]) rfl ?_
      refine st29 _ ?_
      show Steps p.tables e below (T29.setTop (mkF m 115 #[iv p0, iv p1, iv p2, iv p3, iv (((1 : Int32) + (1 : Int32))), iv (0 : Int32), iv (1 : Int32), rv b3, rv b11, .unset, .unset, .unset, .unset, .unset, .unset] [(.ref b29)])) _
      refine XS.dup X29.here hx rfl (hb hby at_115) rfl rfl ?_
      refine XT.iconstV X29.here hx rfl (2 : Int32) (hb hby at_116) (by decide) ?_
      refine st35 _ ?_
      refine XS.dup X35.here hx rfl (hb hby at_119) rfl rfl ?_
      refine XT.iconstV X35.here hx rfl (0 : Int32) (hb hby at_120) (by decide) ?_
      refine XS.iloadN X35.here hx rfl (hb hby at_121) rfl ?_
      show Steps p.tables e below (T35.setTop (mkF m 122 #[iv p0, iv p1, iv p2, iv p3, iv (((1 : Int32) + (1 : Int32))), iv (0 : Int32), iv (1 : Int32), rv b3, rv b11, .unset, .unset, .unset, .unset, .unset, .unset] [(.int p2), (.int (0 : Int32)), (.ref b35), (.ref b35), (.ref b29), (.ref b29)])) _
      refine XT.sipushV X35.here hx rfl (255 : Int32) (hb hby at_122) (by decide) ?_
      refine XS.iand X35.here hx rfl (hb hby at_125) rfl ?_
      refine XT.i2c X35.here hx rfl (hb hby at_126) rfl ?_
      refine st43 _ ?_
      refine XS.dup X43.here hx rfl (hb hby at_128) rfl rfl ?_
      refine XT.iconstV X43.here hx rfl (1 : Int32) (hb hby at_129) (by decide) ?_
      show Steps p.tables e below (T43.setTop (mkF m 130 #[iv p0, iv p1, iv p2, iv p3, iv (((1 : Int32) + (1 : Int32))), iv (0 : Int32), iv (1 : Int32), rv b3, rv b11, .unset, .unset, .unset, .unset, .unset, .unset] [(.int (1 : Int32)), (.ref b35), (.ref b35), (.ref b29), (.ref b29)])) _
      refine XT.bipushV X43.here hx rfl (99 : Int32) (hb hby at_130) (by decide) ?_
      refine st45 _ ?_
      refine st50 _ ?_
      refine XS.astore X50.here hx rfl (hb hby at_136) rfl rfl (l' := #[iv p0, iv p1, iv p2, iv p3, iv (((1 : Int32) + (1 : Int32))), iv (0 : Int32), iv (1 : Int32), rv b3, rv b11, rv b29, .unset, .unset, .unset, .unset, .unset]) rfl ?_
      refine XS.iload X50.here hx rfl (hb hby at_138) rfl ?_
      refine st57 _ ?_
      show Steps p.tables e below (T57.setTop (mkF m 143 #[iv p0, iv p1, iv p2, iv p3, iv (((1 : Int32) + (1 : Int32))), iv (0 : Int32), iv (1 : Int32), rv b3, rv b11, rv b29, .unset, .unset, .unset, .unset, .unset] [(.ref b57)])) _
      refine XS.astore X57.here hx rfl (hb hby at_143) rfl rfl (l' := #[iv p0, iv p1, iv p2, iv p3, iv (((1 : Int32) + (1 : Int32))), iv (0 : Int32), iv (1 : Int32), rv b3, rv b11, rv b29, rv b57, .unset, .unset, .unset, .unset]) rfl ?_
      refine XS.aload X57.here hx rfl (hb hby at_145) rfl rfl ?_
      refine XT.iconstV X57.here hx rfl (0 : Int32) (hb hby at_147) (by decide) ?_
      refine XS.aload X57.here hx rfl (hb hby at_148) rfl rfl ?_
      refine st68 _ ?_
      refine XS.iload X68.here hx rfl (hb hby at_151) rfl ?_
      show Steps p.tables e below (T68.setTop (mkF m 153 #[iv p0, iv p1, iv p2, iv p3, iv (((1 : Int32) + (1 : Int32))), iv (0 : Int32), iv (1 : Int32), rv b3, rv b11, rv b29, rv b57, .unset, .unset, .unset, .unset] [(.int ((1 : Int32) + (1 : Int32)))])) _
      refine XT.iconstV X68.here hx rfl (1 : Int32) (hb hby at_153) (by decide) ?_
      refine XS.icmpNo X68.here hx rfl (hb hby at_154) rfl (XT.ii_le_f (by decide)) ?_
      refine XS.aload X68.here hx rfl (hb hby at_157) rfl rfl ?_
      refine XT.iconstV X68.here hx rfl (1 : Int32) (hb hby at_159) (by decide) ?_
      refine XS.aload X68.here hx rfl (hb hby at_160) rfl rfl ?_
      refine st71 _ ?_
      show Steps p.tables e below (T71.setTop (mkF m 163 #[iv p0, iv p1, iv p2, iv p3, iv (((1 : Int32) + (1 : Int32))), iv (0 : Int32), iv (1 : Int32), rv b3, rv b11, rv b29, rv b57, .unset, .unset, .unset, .unset] [])) _
      refine XS.iload X71.here hx rfl (hb hby at_163) rfl ?_
      refine XT.iconstV X71.here hx rfl (2 : Int32) (hb hby at_165) (by decide) ?_
      refine XS.icmpYes X71.here hx rfl (pc0 := 166) (pc' := 175) rfl (hb hby at_166) rfl (XT.ii_le_t (by decide)) (by decide) (by decide) ?_
      refine st72 _ ?_
      refine XS.dup X72.here hx rfl (hb hby at_178) rfl rfl ?_
      refine XS.aload X72.here hx rfl (hb hby at_179) rfl rfl ?_
      show Steps p.tables e below (T72.setTop (mkF m 181 #[iv p0, iv p1, iv p2, iv p3, iv (((1 : Int32) + (1 : Int32))), iv (0 : Int32), iv (1 : Int32), rv b3, rv b11, rv b29, rv b57, .unset, .unset, .unset, .unset] [(.ref b57), (.ref b72), (.ref b72)])) _
      refine st82 _ ?_
      refine XS.astore X82.here hx rfl (hb hby at_184) rfl rfl (l' := #[iv p0, iv p1, iv p2, iv p3, iv (((1 : Int32) + (1 : Int32))), iv (0 : Int32), iv (1 : Int32), rv b3, rv b11, rv b29, rv b57, rv b72, .unset, .unset, .unset]) rfl ?_
      refine XS.aload X82.here hx rfl (hb hby at_186) rfl rfl ?_
      refine st84 _ ?_
      refine XS.ifYes X84.here hx rfl (pc0 := 191) (pc' := 196) rfl (hb hby at_191) rfl (XT.i0_ne_t (by decide)) (by decide) (by decide) ?_
      refine XS.aload X84.here hx rfl (hb hby at_196) rfl rfl ?_
      show Steps p.tables e below (T84.setTop (mkF m 198 #[iv p0, iv p1, iv p2, iv p3, iv (((1 : Int32) + (1 : Int32))), iv (0 : Int32), iv (1 : Int32), rv b3, rv b11, rv b29, rv b57, rv b72, .unset, .unset, .unset] [(.ref b72)])) _
      refine st86 _ ?_
      refine XS.astore X86.here hx rfl (hb hby at_201) rfl rfl (l' := #[iv p0, iv p1, iv p2, iv p3, iv (((1 : Int32) + (1 : Int32))), iv (0 : Int32), iv (1 : Int32), rv b3, rv b11, rv b29, rv b57, rv b72, rv b3, .unset, .unset]) rfl ?_
      refine XS.aload X86.here hx rfl (hb hby at_203) rfl rfl ?_
      refine XS.aload X86.here hx rfl (hb hby at_205) rfl rfl ?_
      refine st87 _ ?_
      refine XS.ifYes X87.here hx rfl (pc0 := 210) (pc' := 215) rfl (hb hby at_210) rfl (XT.i0_ne_t (by decide)) (by decide) (by decide) ?_
      show Steps p.tables e below (T87.setTop (mkF m 215 #[iv p0, iv p1, iv p2, iv p3, iv (((1 : Int32) + (1 : Int32))), iv (0 : Int32), iv (1 : Int32), rv b3, rv b11, rv b29, rv b57, rv b72, rv b3, .unset, .unset] [])) _
      refine XS.aload X87.here hx rfl (hb hby at_215) rfl rfl ?_
      refine st90 _ ?_
      refine XS.iload X90.here hx rfl (hb hby at_220) rfl ?_
      refine XT.iconstV X90.here hx rfl (1 : Int32) (hb hby at_222) (by decide) ?_
      refine XS.icmpNo X90.here hx rfl (hb hby at_223) rfl (XT.ii_le_f (by decide)) ?_
      refine XT.iconstV X90.here hx rfl (1 : Int32) (hb hby at_226) (by decide) ?_
      show Steps p.tables e below (T90.setTop (mkF m 227 #[iv p0, iv p1, iv p2, iv p3, iv (((1 : Int32) + (1 : Int32))), iv (0 : Int32), iv (1 : Int32), rv b3, rv b11, rv b29, rv b57, rv b72, rv b3, .unset, .unset] [(.int (1 : Int32)), (.int (own_lt ((0 : Int32) + (1 : Int32)) ((1 : Int32) + (1 : Int32))))])) _
      refine XS.goto X90.here hx rfl (pc0 := 227) (pc' := 231) rfl (hb hby at_227) (by decide) (by decide) ?_
      refine XS.icmpYes X90.here hx rfl (pc0 := 231) (pc' := 236) rfl (hb hby at_231) rfl (XT.ii_eq_t (by decide)) (by decide) (by decide) ?_
      refine XS.iload X90.here hx rfl (hb hby at_236) rfl ?_
      refine XT.iconstV X90.here hx rfl (1 : Int32) (hb hby at_238) (by decide) ?_
      refine XS.icmpYes X90.here hx rfl (pc0 := 239) (pc' := 244) rfl (hb hby at_239) rfl (XT.ii_ne_t (by decide)) (by decide) (by decide) ?_
      refine XS.iload X90.here hx rfl (hb hby at_244) rfl ?_
      show Steps p.tables e below (T90.setTop (mkF m 246 #[iv p0, iv p1, iv p2, iv p3, iv (((1 : Int32) + (1 : Int32))), iv (0 : Int32), iv (1 : Int32), rv b3, rv b11, rv b29, rv b57, rv b72, rv b3, .unset, .unset] [(.int (0 : Int32))])) _
      refine XS.ifYes X90.here hx rfl (pc0 := 246) (pc' := 259) rfl (hb hby at_246) rfl (XT.i0_eq_t (by decide)) (by decide) (by decide) ?_
      refine XS.aload X90.here hx rfl (hb hby at_259) rfl rfl ?_
      refine st92 _ ?_
      refine XS.astore X92.here hx rfl (hb hby at_264) rfl rfl (l' := #[iv p0, iv p1, iv p2, iv p3, iv (((1 : Int32) + (1 : Int32))), iv (0 : Int32), iv (1 : Int32), rv b3, rv b11, rv b29, rv b57, rv b72, rv b3, rv b11, .unset]) rfl ?_
      refine XS.aload X92.here hx rfl (hb hby at_266) rfl rfl ?_
      refine XS.aload X92.here hx rfl (hb hby at_268) rfl rfl ?_
      show Steps p.tables e below (T92.setTop (mkF m 270 #[iv p0, iv p1, iv p2, iv p3, iv (((1 : Int32) + (1 : Int32))), iv (0 : Int32), iv (1 : Int32), rv b3, rv b11, rv b29, rv b57, rv b72, rv b3, rv b11, .unset] [(.ref b11), (.ref b11)])) _
      refine st93 _ ?_
      refine XS.ifYes X93.here hx rfl (pc0 := 273) (pc' := 278) rfl (hb hby at_273) rfl (XT.i0_ne_t (by decide)) (by decide) (by decide) ?_
      refine XS.aload X93.here hx rfl (hb hby at_278) rfl rfl ?_
      refine st96 _ ?_
      refine XS.iload X96.here hx rfl (hb hby at_283) rfl ?_
      refine XT.iconstV X96.here hx rfl (2 : Int32) (hb hby at_285) (by decide) ?_
      show Steps p.tables e below (T96.setTop (mkF m 286 #[iv p0, iv p1, iv p2, iv p3, iv (((1 : Int32) + (1 : Int32))), iv (0 : Int32), iv (1 : Int32), rv b3, rv b11, rv b29, rv b57, rv b72, rv b3, rv b11, .unset] [(.int (2 : Int32)), (.int ((1 : Int32) + (1 : Int32))), (.int (own_lt (((0 : Int32) + (1 : Int32)) + (1 : Int32)) ((1 : Int32) + (1 : Int32))))])) _
      refine XS.icmpYes X96.here hx rfl (pc0 := 286) (pc' := 293) rfl (hb hby at_286) rfl (XT.ii_le_t (by decide)) (by decide) (by decide) ?_
      refine XT.iconstV X96.here hx rfl (0 : Int32) (hb hby at_293) (by decide) ?_
      refine XS.icmpYes X96.here hx rfl (pc0 := 294) (pc' := 299) rfl (hb hby at_294) rfl (XT.ii_eq_t (by decide)) (by decide) (by decide) ?_
      refine XS.iload X96.here hx rfl (hb hby at_299) rfl ?_
      refine XT.iconstV X96.here hx rfl (2 : Int32) (hb hby at_301) (by decide) ?_
      refine XS.icmpNo X96.here hx rfl (hb hby at_302) rfl (XT.ii_ne_f (by decide)) ?_
      show Steps p.tables e below (T96.setTop (mkF m 305 #[iv p0, iv p1, iv p2, iv p3, iv (((1 : Int32) + (1 : Int32))), iv (0 : Int32), iv (1 : Int32), rv b3, rv b11, rv b29, rv b57, rv b72, rv b3, rv b11, .unset] [])) _
      refine XT.iconstV X96.here hx rfl (1 : Int32) (hb hby at_305) (by decide) ?_
      exact k)
    obtain ⟨fs, hr, hrun, hended, hEnd⟩ := X96.leaveW hS8 (by rw [e96]; exact (Nat.le_trans (Nat.le_trans (Nat.le_trans (Nat.le_trans (Nat.le_trans (Nat.le_trans (Nat.le_trans (Nat.le_trans (Nat.le_trans (Nat.le_trans (Nat.le_trans (Nat.le_trans (Nat.le_trans (Nat.le_trans (Nat.le_trans (Nat.le_trans (Nat.le_trans (Nat.le_refl _) E11.1) E13.1) (Nat.le_of_eq W18.size.symm)) (Nat.le_of_eq W20.size.symm)) K25.1) E29.1) E35.1) (Nat.le_of_eq W43.size.symm)) (Nat.le_of_eq W45.size.symm)) K50.1) E57.1) (Nat.le_of_eq W68.size.symm)) (Nat.le_of_eq W71.size.symm)) E72.1) K82.1) K86.1) K92.1)) (v := some (.int (1 : Int32))) (fun h => by rw [Bd.returns] at h; cases h)
    refine ⟨_, _, pre0 _ (S98 _ ?_), hrun, hended, _, _, rfl, ?_, hEnd.1, hEnd.2.1, hEnd.2.2.1, hEnd.2.2.2.mono (by decide) (by decide)⟩
    · exact retN X96 hx (t := .boolean) Bd.returns (by simp) (hb hby at_306) hr
    · show Qrm0 Z p0 p1 p2 p3 wC h0 n0 _ T96.heap _
      rw [e96]
      exact ⟨rfl, N96⟩
  · obtain ⟨T99, h99, X99, e99, E99, A99, D99, -, st99⟩ := newO X0 hx hZ hown (hw _ (List.mem_of_getElem? (i := 1) rfl)) (hw _ (List.mem_of_getElem? (i := 2) rfl)) (hw _ (List.mem_of_getElem? (i := 3) rfl)) e0 (g := (mkF m 47 #[iv p0, iv p1, iv p2, iv p3, iv (((1 : Int32) + (1 : Int32))), iv (1 : Int32), iv (1 : Int32), .unset, .unset, .unset, .unset, .unset, .unset, .unset, .unset] [])) rfl (hb hby at_47) (by decide) (by decide)
    obtain ⟨b99, g99⟩ : ∃ z, z = h0.size := ⟨_, rfl⟩
    rw [← g99] at A99 D99 st99
    have ge_b99 : n0 ≤ b99 := Nat.le_trans Z0 (Nat.le_of_eq g99.symm)
    have sz_b99 : h0.size ≤ b99 := Nat.le_of_eq g99.symm
    have Z99 : n0 ≤ h99.size := Nat.le_trans Z0 E99.1
    have K99 : Keep h0 h99 [] := (Keep.refl h0 []).ext E99
    have F99_coder : Fld Z h99 b99 "java/lang/String" "coder" "B" (.int (0 : Int32)) := D99 (Or.inr (hw _ (List.mem_of_getElem? (i := 28) rfl))) (ty := .byte) (by decide)
    have F99_value : Fld Z h99 b99 "java/lang/String" "value" "[B" .null := D99 (Or.inr (hw _ (List.mem_of_getElem? (i := 30) rfl))) (ty := (.array .byte)) (by decide)
    obtain ⟨T100, h100, k100, X100, e100, E100, A100, st100⟩ := newP X99 hx hZ (hw _ (List.mem_of_getElem? (i := 4) rfl)) e99 (g := (mkF m 52 #[iv p0, iv p1, iv p2, iv p3, iv (((1 : Int32) + (1 : Int32))), iv (1 : Int32), iv (1 : Int32), .unset, .unset, .unset, .unset, .unset, .unset, .unset, .unset] [(.int (0 : Int32)), (.ref b99), (.ref b99)])) rfl (hb hby at_52) rfl (by decide) (cap := 0) (by decide) (by decide) (by decide) (by decide)
    obtain ⟨b100, g100⟩ : ∃ z, z = h99.size := ⟨_, rfl⟩
    rw [← g100] at A100 st100
    have ne_b99_b100 : b99 ≠ b100 := Nat.ne_of_lt (Nat.lt_of_lt_of_le A99.lt (Nat.le_of_eq g100.symm))
    have ge_b100 : n0 ≤ b100 := Nat.le_trans Z99 (Nat.le_of_eq g100.symm)
    have sz_b100 : h0.size ≤ b100 := Nat.le_trans K99.1 (Nat.le_of_eq g100.symm)
    have Z100 : n0 ≤ h100.size := Nat.le_trans Z99 E100.1
    have K100 : Keep h0 h100 [] := K99.ext E100
    have V100 : Arv Z h100 b100 k100 .char (0 : Int32) [] (.int (0 : Int32)) := Arv.new A100 (by decide)
    have f101 := (A99.ext E100)
    have f102 := (F99_value.ext E100)
    have f103 := (F99_coder.ext E100)
    have S105 : ∀ t, Steps p.tables e below (T100.setTop (mkF m 54 #[iv p0, iv p1, iv p2, iv p3, iv (((1 : Int32) + (1 : Int32))), iv (1 : Int32), iv (1 : Int32), .unset, .unset, .unset, .unset, .unset, .unset, .unset, .unset] [(.ref b100), (.ref b99), (.ref b99)])) t → Steps p.tables e below (s₁.setTop (mkF m 0 #[iv p0, iv p1, iv p2, iv p3, .unset, .unset, .unset, .unset, .unset, .unset, .unset, .unset, .unset, .unset, .unset] [])) t := fun t k => S1 t (by
      show Steps p.tables e below (s₁.setTop (mkF m 16 #[iv p0, iv p1, iv p2, iv p3, iv (((1 : Int32) + (1 : Int32))), .unset, .unset, .unset, .unset, .unset, .unset, .unset, .unset, .unset, .unset] [(.int ((XT.ushr p3 (8 : Int32)) &&& (1 : Int32)))])) _
      refine XS.ifNo X0.here hx rfl (hb hby at_16) rfl (XT.i0_eq_f hc16_2) ?_
      refine XT.iconstV X0.here hx rfl (1 : Int32) (hb hby at_19) (by decide) ?_
      refine XS.goto X0.here hx rfl (pc0 := 20) (pc' := 24) rfl (hb hby at_20) (by decide) (by decide) ?_
      refine XS.istore X0.here hx rfl (hb hby at_24) rfl (l' := #[iv p0, iv p1, iv p2, iv p3, iv (((1 : Int32) + (1 : Int32))), iv (1 : Int32), .unset, .unset, .unset, .unset, .unset, .unset, .unset, .unset, .unset]) rfl ?_
      show Steps p.tables e below (s₁.setTop (mkF m 26 #[iv p0, iv p1, iv p2, iv p3, iv (((1 : Int32) + (1 : Int32))), iv (1 : Int32), .unset, .unset, .unset, .unset, .unset, .unset, .unset, .unset, .unset] [])) _
      refine XS.iloadN X0.here hx rfl (hb hby at_26) rfl ?_
      refine XT.bipushV X0.here hx rfl (9 : Int32) (hb hby at_27) (by decide) ?_
      refine XT.iushr X0.here hx rfl (hb hby at_29) rfl ?_
      refine XT.iconstV X0.here hx rfl (1 : Int32) (hb hby at_30) (by decide) ?_
      refine XS.iand X0.here hx rfl (hb hby at_31) rfl ?_
      show Steps p.tables e below (s₁.setTop (mkF m 32 #[iv p0, iv p1, iv p2, iv p3, iv (((1 : Int32) + (1 : Int32))), iv (1 : Int32), .unset, .unset, .unset, .unset, .unset, .unset, .unset, .unset, .unset] [(.int ((XT.ushr p3 (9 : Int32)) &&& (1 : Int32)))])) _
      rw [he]
      show Steps p.tables e below (s₁.setTop (mkF m 32 #[iv p0, iv p1, iv p2, iv p3, iv (((1 : Int32) + (1 : Int32))), iv (1 : Int32), .unset, .unset, .unset, .unset, .unset, .unset, .unset, .unset, .unset] [(.int (1 : Int32))])) _
      refine XS.ifNo X0.here hx rfl (hb hby at_32) rfl (XT.i0_eq_f (by decide)) ?_
      refine XT.iconstV X0.here hx rfl (1 : Int32) (hb hby at_35) (by decide) ?_
      refine XS.goto X0.here hx rfl (pc0 := 36) (pc' := 40) rfl (hb hby at_36) (by decide) (by decide) ?_
      refine XS.istore X0.here hx rfl (hb hby at_40) rfl (l' := #[iv p0, iv p1, iv p2, iv p3, iv (((1 : Int32) + (1 : Int32))), iv (1 : Int32), iv (1 : Int32), .unset, .unset, .unset, .unset, .unset, .unset, .unset, .unset]) rfl ?_
      refine XS.iload X0.here hx rfl (hb hby at_42) rfl ?_
      refine XS.ifNo X0.here hx rfl (hb hby at_44) rfl (XT.i0_eq_f (by decide)) ?_
      show Steps p.tables e below (s₁.setTop (mkF m 47 #[iv p0, iv p1, iv p2, iv p3, iv (((1 : Int32) + (1 : Int32))), iv (1 : Int32), iv (1 : Int32), .unset, .unset, .unset, .unset, .unset, .unset, .unset, .unset] [])) _
      refine st99 _ ?_
      refine XS.dup X99.here hx rfl (hb hby at_50) rfl rfl ?_
      refine XT.iconstV X99.here hx rfl (0 : Int32) (hb hby at_51) (by decide) ?_
      refine st100 _ ?_
      exact k)
    obtain ⟨_, T104, Lc104, X104, hS104, hQ104, st104⟩ := own_specialI (W := 1) (y := mN4) X100 hx hZ rfl hown (hw _ (List.mem_of_getElem? (i := 5) rfl)) (hw _ (List.mem_of_getElem? (i := 6) rfl)) (hw _ (List.mem_of_getElem? (i := 7) rfl)) (hw _ (List.mem_of_getElem? (i := 3) rfl)) (by decide) (rmSi2_e l Z av0 hw [] b99 b100 k100 h100 n0 Z100 f101 f102 f103 ge_b99 V100 (fun b cl q => K100.2.1 b cl (hkp b cl q) nin0) hcH hcw) (by decide) (by decide) hI (g := (mkF m 54 #[iv p0, iv p1, iv p2, iv p3, iv (((1 : Int32) + (1 : Int32))), iv (1 : Int32), iv (1 : Int32), .unset, .unset, .unset, .unset, .unset, .unset, .unset, .unset] [(.ref b100), (.ref b99), (.ref b99)])) rfl (by rw [hml]; rfl) (a := b99) (argsL := [(.ref b100)]) (rest := [(.ref b99)]) (lenOf pd__C_V rfl) rfl (by show 2 * 0 + _ ≤ _; exact Nat.le_of_eq rfl) (hb hby at_54) rfl e100 (by decide : 2 + 2 ≤ _) (by decide : 4 + 4 ≤ _)
    have hZ := State.Warmed39.trans (t := s) hZ hS104.1
    have hown : (s.setVm T104.vm).vm.findClass "com/example/steady_courier/steadycourier/OptionReaderOptionPinLaw" = some m.cls := by rw [show (s.setVm T104.vm).vm = T104.vm from rfl, hS104.1.alike.findClass]; exact hown
    obtain ⟨rfl, N104q, K104, FC104, b104, kb104, FV104, V104⟩ := hQ104
    have N104 := Fr.app N0 N104q
    have e104 : T104.heap = T104.heap := rfl
    have Zk104 : n0 ≤ T104.heap.size := Nat.le_trans Z100 K104.1
    have Kk104 : Keep h0 T104.heap [] := K100.trans K104 (allS (Or.inr sz_b99) all0)
    have f106 := (f101.keep K104)
    have ne_b99_b104 : b99 ≠ b104 := f106.neArv V104 (hw _ (List.mem_of_getElem? (i := 2) rfl))
    obtain ⟨T107, h107, X107, e107, E107, A107, D107, -, st107⟩ := newO X104 hx hZ hown (hw _ (List.mem_of_getElem? (i := 1) rfl)) (hw _ (List.mem_of_getElem? (i := 2) rfl)) (hw _ (List.mem_of_getElem? (i := 3) rfl)) e104 (g := (mkF m 86 #[iv p0, iv p1, iv p2, iv p3, iv (((1 : Int32) + (1 : Int32))), iv (1 : Int32), iv (1 : Int32), rv b99, .unset, .unset, .unset, .unset, .unset, .unset, .unset] [])) rfl (hb hby at_86) (by decide) (by decide)
    obtain ⟨b107, g107⟩ : ∃ z, z = T104.heap.size := ⟨_, rfl⟩
    rw [← g107] at A107 D107 st107
    have f108 := (V100.keep K104 (ninS (Ne.symm ne_b99_b100) nin0))
    have ne_b100_b107 : b100 ≠ b107 := Nat.ne_of_lt (Nat.lt_of_lt_of_le f108.lt (Nat.le_of_eq g107.symm))
    have ne_b104_b107 : b104 ≠ b107 := Nat.ne_of_lt (Nat.lt_of_lt_of_le V104.lt (Nat.le_of_eq g107.symm))
    have ne_b99_b107 : b99 ≠ b107 := Nat.ne_of_lt (Nat.lt_of_lt_of_le f106.lt (Nat.le_of_eq g107.symm))
    have ge_b107 : n0 ≤ b107 := Nat.le_trans Zk104 (Nat.le_of_eq g107.symm)
    have sz_b107 : h0.size ≤ b107 := Nat.le_trans Kk104.1 (Nat.le_of_eq g107.symm)
    have Z107 : n0 ≤ h107.size := Nat.le_trans Zk104 E107.1
    have K107 : Keep h0 h107 [] := Kk104.ext E107
    have F107_coder : Fld Z h107 b107 "java/lang/String" "coder" "B" (.int (0 : Int32)) := D107 (Or.inr (hw _ (List.mem_of_getElem? (i := 28) rfl))) (ty := .byte) (by decide)
    have F107_value : Fld Z h107 b107 "java/lang/String" "value" "[B" .null := D107 (Or.inr (hw _ (List.mem_of_getElem? (i := 30) rfl))) (ty := (.array .byte)) (by decide)
    obtain ⟨T109, h109, k109, X109, e109, E109, A109, st109⟩ := newP X107 hx hZ (hw _ (List.mem_of_getElem? (i := 4) rfl)) e107 (g := (mkF m 91 #[iv p0, iv p1, iv p2, iv p3, iv (((1 : Int32) + (1 : Int32))), iv (1 : Int32), iv (1 : Int32), rv b99, .unset, .unset, .unset, .unset, .unset, .unset, .unset] [(.int (2 : Int32)), (.ref b107), (.ref b107)])) rfl (hb hby at_91) rfl (by decide) (cap := 2) (by decide) (by decide) (by decide) (by decide)
    obtain ⟨b109, g109⟩ : ∃ z, z = h107.size := ⟨_, rfl⟩
    rw [← g109] at A109 st109
    have f110 := (f108.ext E107)
    have ne_b100_b109 : b100 ≠ b109 := Nat.ne_of_lt (Nat.lt_of_lt_of_le f110.lt (Nat.le_of_eq g109.symm))
    have f111 := (V104.ext E107)
    have ne_b104_b109 : b104 ≠ b109 := Nat.ne_of_lt (Nat.lt_of_lt_of_le f111.lt (Nat.le_of_eq g109.symm))
    have ne_b107_b109 : b107 ≠ b109 := Nat.ne_of_lt (Nat.lt_of_lt_of_le A107.lt (Nat.le_of_eq g109.symm))
    have f112 := (f106.ext E107)
    have ne_b99_b109 : b99 ≠ b109 := Nat.ne_of_lt (Nat.lt_of_lt_of_le f112.lt (Nat.le_of_eq g109.symm))
    have ge_b109 : n0 ≤ b109 := Nat.le_trans Z107 (Nat.le_of_eq g109.symm)
    have sz_b109 : h0.size ≤ b109 := Nat.le_trans K107.1 (Nat.le_of_eq g109.symm)
    have Z109 : n0 ≤ h109.size := Nat.le_trans Z107 E109.1
    have K109 : Keep h0 h109 [] := K107.ext E109
    have V109 : Arv Z h109 b109 k109 .char (2 : Int32) [(.int (0 : Int32)), (.int (0 : Int32))] (.int (0 : Int32)) := (Arv.new A109 (by decide)).pad (pad_rep [] (.int (0 : Int32)) 2)
    obtain ⟨cl113, Ar113, qk113, Sz113, Ng113, Hs113, Gs113⟩ := id V109
    have hin113 : ¬ ((0 : Int32) < 0 ∨ cl113.slots.size ≤ ((0 : Int32)).toNatClampNeg) := inb_of Sz113 ⟨by decide, by decide⟩
    obtain ⟨T114, h114, X114, e114, W114, st114⟩ := stC X109 hx hZ e109 Ar113 (j := (0 : Int32)) hin113 (g := (mkF m 101 #[iv p0, iv p1, iv p2, iv p3, iv (((1 : Int32) + (1 : Int32))), iv (1 : Int32), iv (1 : Int32), rv b99, .unset, .unset, .unset, .unset, .unset, .unset, .unset] [(.int ((p1 &&& (255 : Int32))).toUInt32.toUInt16.toUInt32.toInt32), (.int (0 : Int32)), (.ref b109), (.ref b109), (.ref b107), (.ref b107)])) rfl rfl (hb hby at_101)
    have N114 := Fr.snoc X114 N104 ge_b109
    have Z114 : n0 ≤ h114.size := Nat.le_trans Z109 (Nat.le_of_eq W114.size.symm)
    have K114 : Keep h0 h114 [] := K109.wr W114 (Or.inr sz_b109)
    have V114 : Arv Z h114 b109 k109 .char (2 : Int32) [(.int (nar .char ((p1 &&& (255 : Int32))).toUInt32.toUInt16.toUInt32.toInt32)), (.int (0 : Int32))] (.int (0 : Int32)) := Arv.set Ar113 qk113 Sz113 Ng113 Hs113 Gs113 (fits_nar_char _) W114 0 rfl (Nat.le_of_ble_eq_true rfl)
    obtain ⟨cl115, Ar115, qk115, Sz115, Ng115, Hs115, Gs115⟩ := id V114
    have hin115 : ¬ ((1 : Int32) < 0 ∨ cl115.slots.size ≤ ((1 : Int32)).toNatClampNeg) := inb_of Sz115 ⟨by decide, by decide⟩
    obtain ⟨T116, h116, X116, e116, W116, st116⟩ := stC X114 hx hZ e114 Ar115 (j := (1 : Int32)) hin115 (g := (mkF m 106 #[iv p0, iv p1, iv p2, iv p3, iv (((1 : Int32) + (1 : Int32))), iv (1 : Int32), iv (1 : Int32), rv b99, .unset, .unset, .unset, .unset, .unset, .unset, .unset] [(.int (98 : Int32)), (.int (1 : Int32)), (.ref b109), (.ref b109), (.ref b107), (.ref b107)])) rfl rfl (hb hby at_106)
    have N116 := Fr.snoc X116 N114 ge_b109
    have Z116 : n0 ≤ h116.size := Nat.le_trans Z114 (Nat.le_of_eq W116.size.symm)
    have K116 : Keep h0 h116 [] := K114.wr W116 (Or.inr sz_b109)
    have V116 : Arv Z h116 b109 k109 .char (2 : Int32) [(.int (nar .char ((p1 &&& (255 : Int32))).toUInt32.toUInt16.toUInt32.toInt32)), (.int (nar .char (98 : Int32)))] (.int (0 : Int32)) := Arv.set Ar115 qk115 Sz115 Ng115 Hs115 Gs115 (fits_nar_char _) W116 1 rfl (Nat.le_of_ble_eq_true rfl)
    have f117 := (((A107.ext E109).wr W114).wr W116)
    have f118 := (((F107_value.ext E109).other W114 (Or.inl ne_b107_b109)).other W116 (Or.inl ne_b107_b109))
    have f119 := (((F107_coder.ext E109).other W114 (Or.inl ne_b107_b109)).other W116 (Or.inl ne_b107_b109))
    have f120 := (((((own_stak ((hS.ext E99).ext E100) K104 (allS (own_exns f101) all0)).ext E107).ext E109).wr W114).wr W116)
    obtain ⟨_, T121, Lc121, X121, hQ121, st121⟩ := own_special (W := 1) (y := mN4) X116 hx hZ rfl hown (hw _ (List.mem_of_getElem? (i := 5) rfl)) (hw _ (List.mem_of_getElem? (i := 6) rfl)) (hw _ (List.mem_of_getElem? (i := 7) rfl)) (hw _ (List.mem_of_getElem? (i := 3) rfl)) (by decide) (rmSi2_2 l Z av0 hw [] b107 b109 k109 wC (nar .char ((p1 &&& (255 : Int32))).toUInt32.toUInt16.toUInt32.toInt32) (nar .char (98 : Int32)) h116 n0 Z116 f117 f118 f119 ge_b107 V116 f120 hw0 (own_ch p1) (by decide)) (by decide) (by decide) (g := (mkF m 107 #[iv p0, iv p1, iv p2, iv p3, iv (((1 : Int32) + (1 : Int32))), iv (1 : Int32), iv (1 : Int32), rv b99, .unset, .unset, .unset, .unset, .unset, .unset, .unset] [(.ref b109), (.ref b107), (.ref b107)])) rfl (by rw [hml]; rfl) (a := b107) (argsL := [(.ref b109)]) (rest := [(.ref b107)]) (lenOf pd__C_V rfl) rfl (by show 2 * 0 + _ ≤ _; exact Nat.le_of_eq rfl) (hb hby at_107) rfl e116 (by decide : 6 + 1 ≤ _) (by decide : 14 + 2 ≤ _)
    obtain ⟨rfl, N121q, K121, FC121, b121, kb121, FV121, V121, gb121⟩ := hQ121
    have N121 := Fr.app N116 N121q
    have e121 : T121.heap = T121.heap := rfl
    have f122 := (((f110.ext E109).other W114 ne_b100_b109).other W116 ne_b100_b109)
    have ne_b100_b121 : b100 ≠ b121 := Nat.ne_of_lt (Nat.lt_of_lt_of_le f122.lt gb121)
    have f123 := (((f111.ext E109).other W114 ne_b104_b109).other W116 ne_b104_b109)
    have ne_b104_b121 : b104 ≠ b121 := Nat.ne_of_lt (Nat.lt_of_lt_of_le f123.lt gb121)
    have ne_b107_b121 : b107 ≠ b121 := Nat.ne_of_lt (Nat.lt_of_lt_of_le f117.lt gb121)
    have ne_b109_b121 : b109 ≠ b121 := Nat.ne_of_lt (Nat.lt_of_lt_of_le V116.lt gb121)
    have f124 := (((f112.ext E109).wr W114).wr W116)
    have ne_b99_b121 : b99 ≠ b121 := Nat.ne_of_lt (Nat.lt_of_lt_of_le f124.lt gb121)
    have ge_b121 : n0 ≤ b121 := Nat.le_trans Z116 gb121
    have sz_b121 : h0.size ≤ b121 := Nat.le_trans K116.1 gb121
    have Zk121 : n0 ≤ T121.heap.size := Nat.le_trans Z116 K121.1
    have Kk121 : Keep h0 T121.heap [] := K116.trans K121 (allS (Or.inr sz_b107) all0)
    obtain ⟨T125, h125, X125, e125, E125, A125, D125, -, st125⟩ := newO X121 hx hZ hown (hw _ (List.mem_of_getElem? (i := 1) rfl)) (hw _ (List.mem_of_getElem? (i := 2) rfl)) (hw _ (List.mem_of_getElem? (i := 3) rfl)) e121 (g := (mkF m 112 #[iv p0, iv p1, iv p2, iv p3, iv (((1 : Int32) + (1 : Int32))), iv (1 : Int32), iv (1 : Int32), rv b99, rv b107, .unset, .unset, .unset, .unset, .unset, .unset] [])) rfl (hb hby at_112) (by decide) (by decide)
    obtain ⟨b125, g125⟩ : ∃ z, z = T121.heap.size := ⟨_, rfl⟩
    rw [← g125] at A125 D125 st125
    have f126 := (f122.keep K121 (ninS ne_b100_b107 nin0))
    have ne_b100_b125 : b100 ≠ b125 := Nat.ne_of_lt (Nat.lt_of_lt_of_le f126.lt (Nat.le_of_eq g125.symm))
    have f127 := (f123.keep K121 (ninS ne_b104_b107 nin0))
    have ne_b104_b125 : b104 ≠ b125 := Nat.ne_of_lt (Nat.lt_of_lt_of_le f127.lt (Nat.le_of_eq g125.symm))
    have f128 := (f117.keep K121)
    have ne_b107_b125 : b107 ≠ b125 := Nat.ne_of_lt (Nat.lt_of_lt_of_le f128.lt (Nat.le_of_eq g125.symm))
    have f129 := (V116.keep K121 (ninS (Ne.symm ne_b107_b109) nin0))
    have ne_b109_b125 : b109 ≠ b125 := Nat.ne_of_lt (Nat.lt_of_lt_of_le f129.lt (Nat.le_of_eq g125.symm))
    have ne_b121_b125 : b121 ≠ b125 := Nat.ne_of_lt (Nat.lt_of_lt_of_le V121.lt (Nat.le_of_eq g125.symm))
    have f130 := (f124.keep K121)
    have ne_b99_b125 : b99 ≠ b125 := Nat.ne_of_lt (Nat.lt_of_lt_of_le f130.lt (Nat.le_of_eq g125.symm))
    have ge_b125 : n0 ≤ b125 := Nat.le_trans Zk121 (Nat.le_of_eq g125.symm)
    have sz_b125 : h0.size ≤ b125 := Nat.le_trans Kk121.1 (Nat.le_of_eq g125.symm)
    have Z125 : n0 ≤ h125.size := Nat.le_trans Zk121 E125.1
    have K125 : Keep h0 h125 [] := Kk121.ext E125
    have F125_coder : Fld Z h125 b125 "java/lang/String" "coder" "B" (.int (0 : Int32)) := D125 (Or.inr (hw _ (List.mem_of_getElem? (i := 28) rfl))) (ty := .byte) (by decide)
    have F125_value : Fld Z h125 b125 "java/lang/String" "value" "[B" .null := D125 (Or.inr (hw _ (List.mem_of_getElem? (i := 30) rfl))) (ty := (.array .byte)) (by decide)
    obtain ⟨T131, h131, k131, X131, e131, E131, A131, st131⟩ := newP X125 hx hZ (hw _ (List.mem_of_getElem? (i := 4) rfl)) e125 (g := (mkF m 117 #[iv p0, iv p1, iv p2, iv p3, iv (((1 : Int32) + (1 : Int32))), iv (1 : Int32), iv (1 : Int32), rv b99, rv b107, .unset, .unset, .unset, .unset, .unset, .unset] [(.int (2 : Int32)), (.ref b125), (.ref b125)])) rfl (hb hby at_117) rfl (by decide) (cap := 2) (by decide) (by decide) (by decide) (by decide)
    obtain ⟨b131, g131⟩ : ∃ z, z = h125.size := ⟨_, rfl⟩
    rw [← g131] at A131 st131
    have f132 := (f126.ext E125)
    have ne_b100_b131 : b100 ≠ b131 := Nat.ne_of_lt (Nat.lt_of_lt_of_le f132.lt (Nat.le_of_eq g131.symm))
    have f133 := (f127.ext E125)
    have ne_b104_b131 : b104 ≠ b131 := Nat.ne_of_lt (Nat.lt_of_lt_of_le f133.lt (Nat.le_of_eq g131.symm))
    have f134 := (f128.ext E125)
    have ne_b107_b131 : b107 ≠ b131 := Nat.ne_of_lt (Nat.lt_of_lt_of_le f134.lt (Nat.le_of_eq g131.symm))
    have f135 := (f129.ext E125)
    have ne_b109_b131 : b109 ≠ b131 := Nat.ne_of_lt (Nat.lt_of_lt_of_le f135.lt (Nat.le_of_eq g131.symm))
    have f136 := (V121.ext E125)
    have ne_b121_b131 : b121 ≠ b131 := Nat.ne_of_lt (Nat.lt_of_lt_of_le f136.lt (Nat.le_of_eq g131.symm))
    have ne_b125_b131 : b125 ≠ b131 := Nat.ne_of_lt (Nat.lt_of_lt_of_le A125.lt (Nat.le_of_eq g131.symm))
    have f137 := (f130.ext E125)
    have ne_b99_b131 : b99 ≠ b131 := Nat.ne_of_lt (Nat.lt_of_lt_of_le f137.lt (Nat.le_of_eq g131.symm))
    have ge_b131 : n0 ≤ b131 := Nat.le_trans Z125 (Nat.le_of_eq g131.symm)
    have sz_b131 : h0.size ≤ b131 := Nat.le_trans K125.1 (Nat.le_of_eq g131.symm)
    have Z131 : n0 ≤ h131.size := Nat.le_trans Z125 E131.1
    have K131 : Keep h0 h131 [] := K125.ext E131
    have V131 : Arv Z h131 b131 k131 .char (2 : Int32) [(.int (0 : Int32)), (.int (0 : Int32))] (.int (0 : Int32)) := (Arv.new A131 (by decide)).pad (pad_rep [] (.int (0 : Int32)) 2)
    obtain ⟨cl138, Ar138, qk138, Sz138, Ng138, Hs138, Gs138⟩ := id V131
    have hin138 : ¬ ((0 : Int32) < 0 ∨ cl138.slots.size ≤ ((0 : Int32)).toNatClampNeg) := inb_of Sz138 ⟨by decide, by decide⟩
    obtain ⟨T139, h139, X139, e139, W139, st139⟩ := stC X131 hx hZ e131 Ar138 (j := (0 : Int32)) hin138 (g := (mkF m 127 #[iv p0, iv p1, iv p2, iv p3, iv (((1 : Int32) + (1 : Int32))), iv (1 : Int32), iv (1 : Int32), rv b99, rv b107, .unset, .unset, .unset, .unset, .unset, .unset] [(.int ((p2 &&& (255 : Int32))).toUInt32.toUInt16.toUInt32.toInt32), (.int (0 : Int32)), (.ref b131), (.ref b131), (.ref b125), (.ref b125)])) rfl rfl (hb hby at_127)
    have N139 := Fr.snoc X139 N121 ge_b131
    have Z139 : n0 ≤ h139.size := Nat.le_trans Z131 (Nat.le_of_eq W139.size.symm)
    have K139 : Keep h0 h139 [] := K131.wr W139 (Or.inr sz_b131)
    have V139 : Arv Z h139 b131 k131 .char (2 : Int32) [(.int (nar .char ((p2 &&& (255 : Int32))).toUInt32.toUInt16.toUInt32.toInt32)), (.int (0 : Int32))] (.int (0 : Int32)) := Arv.set Ar138 qk138 Sz138 Ng138 Hs138 Gs138 (fits_nar_char _) W139 0 rfl (Nat.le_of_ble_eq_true rfl)
    obtain ⟨cl140, Ar140, qk140, Sz140, Ng140, Hs140, Gs140⟩ := id V139
    have hin140 : ¬ ((1 : Int32) < 0 ∨ cl140.slots.size ≤ ((1 : Int32)).toNatClampNeg) := inb_of Sz140 ⟨by decide, by decide⟩
    obtain ⟨T141, h141, X141, e141, W141, st141⟩ := stC X139 hx hZ e139 Ar140 (j := (1 : Int32)) hin140 (g := (mkF m 132 #[iv p0, iv p1, iv p2, iv p3, iv (((1 : Int32) + (1 : Int32))), iv (1 : Int32), iv (1 : Int32), rv b99, rv b107, .unset, .unset, .unset, .unset, .unset, .unset] [(.int (99 : Int32)), (.int (1 : Int32)), (.ref b131), (.ref b131), (.ref b125), (.ref b125)])) rfl rfl (hb hby at_132)
    have N141 := Fr.snoc X141 N139 ge_b131
    have Z141 : n0 ≤ h141.size := Nat.le_trans Z139 (Nat.le_of_eq W141.size.symm)
    have K141 : Keep h0 h141 [] := K139.wr W141 (Or.inr sz_b131)
    have V141 : Arv Z h141 b131 k131 .char (2 : Int32) [(.int (nar .char ((p2 &&& (255 : Int32))).toUInt32.toUInt16.toUInt32.toInt32)), (.int (nar .char (99 : Int32)))] (.int (0 : Int32)) := Arv.set Ar140 qk140 Sz140 Ng140 Hs140 Gs140 (fits_nar_char _) W141 1 rfl (Nat.le_of_ble_eq_true rfl)
    have f142 := (((A125.ext E131).wr W139).wr W141)
    have f143 := (((F125_value.ext E131).other W139 (Or.inl ne_b125_b131)).other W141 (Or.inl ne_b125_b131))
    have f144 := (((F125_coder.ext E131).other W139 (Or.inl ne_b125_b131)).other W141 (Or.inl ne_b125_b131))
    have f145 := (((((own_stak f120 K121 (allS (own_exns f117) all0)).ext E125).ext E131).wr W139).wr W141)
    obtain ⟨_, T146, Lc146, X146, hQ146, st146⟩ := own_special (W := 1) (y := mN4) X141 hx hZ rfl hown (hw _ (List.mem_of_getElem? (i := 5) rfl)) (hw _ (List.mem_of_getElem? (i := 6) rfl)) (hw _ (List.mem_of_getElem? (i := 7) rfl)) (hw _ (List.mem_of_getElem? (i := 3) rfl)) (by decide) (rmSi2_2 l Z av0 hw [] b125 b131 k131 wC (nar .char ((p2 &&& (255 : Int32))).toUInt32.toUInt16.toUInt32.toInt32) (nar .char (99 : Int32)) h141 n0 Z141 f142 f143 f144 ge_b125 V141 f145 hw0 (own_ch p2) (by decide)) (by decide) (by decide) (g := (mkF m 133 #[iv p0, iv p1, iv p2, iv p3, iv (((1 : Int32) + (1 : Int32))), iv (1 : Int32), iv (1 : Int32), rv b99, rv b107, .unset, .unset, .unset, .unset, .unset, .unset] [(.ref b131), (.ref b125), (.ref b125)])) rfl (by rw [hml]; rfl) (a := b125) (argsL := [(.ref b131)]) (rest := [(.ref b125)]) (lenOf pd__C_V rfl) rfl (by show 2 * 0 + _ ≤ _; exact Nat.le_of_eq rfl) (hb hby at_133) rfl e141 (by decide : 9 + 1 ≤ _) (by decide : 22 + 2 ≤ _)
    obtain ⟨rfl, N146q, K146, FC146, b146, kb146, FV146, V146, gb146⟩ := hQ146
    have N146 := Fr.app N141 N146q
    have e146 : T146.heap = T146.heap := rfl
    have f147 := (((f132.ext E131).other W139 ne_b100_b131).other W141 ne_b100_b131)
    have ne_b100_b146 : b100 ≠ b146 := Nat.ne_of_lt (Nat.lt_of_lt_of_le f147.lt gb146)
    have f148 := (((f133.ext E131).other W139 ne_b104_b131).other W141 ne_b104_b131)
    have ne_b104_b146 : b104 ≠ b146 := Nat.ne_of_lt (Nat.lt_of_lt_of_le f148.lt gb146)
    have f149 := (((f134.ext E131).wr W139).wr W141)
    have ne_b107_b146 : b107 ≠ b146 := Nat.ne_of_lt (Nat.lt_of_lt_of_le f149.lt gb146)
    have f150 := (((f135.ext E131).other W139 ne_b109_b131).other W141 ne_b109_b131)
    have ne_b109_b146 : b109 ≠ b146 := Nat.ne_of_lt (Nat.lt_of_lt_of_le f150.lt gb146)
    have f151 := (((f136.ext E131).other W139 ne_b121_b131).other W141 ne_b121_b131)
    have ne_b121_b146 : b121 ≠ b146 := Nat.ne_of_lt (Nat.lt_of_lt_of_le f151.lt gb146)
    have ne_b125_b146 : b125 ≠ b146 := Nat.ne_of_lt (Nat.lt_of_lt_of_le f142.lt gb146)
    have ne_b131_b146 : b131 ≠ b146 := Nat.ne_of_lt (Nat.lt_of_lt_of_le V141.lt gb146)
    have f152 := (((f137.ext E131).wr W139).wr W141)
    have ne_b99_b146 : b99 ≠ b146 := Nat.ne_of_lt (Nat.lt_of_lt_of_le f152.lt gb146)
    have ge_b146 : n0 ≤ b146 := Nat.le_trans Z141 gb146
    have sz_b146 : h0.size ≤ b146 := Nat.le_trans K141.1 gb146
    have Zk146 : n0 ≤ T146.heap.size := Nat.le_trans Z141 K146.1
    have Kk146 : Keep h0 T146.heap [] := K141.trans K146 (allS (Or.inr sz_b125) all0)
    obtain ⟨T153, h153, k153, X153, e153, E153, A153, O153, st153⟩ := newR X146 hx hZ hown (hw _ (List.mem_of_getElem? (i := 1) rfl)) (hw _ (List.mem_of_getElem? (i := 31) rfl)) e146 (g := (mkF m 140 #[iv p0, iv p1, iv p2, iv p3, iv (((1 : Int32) + (1 : Int32))), iv (1 : Int32), iv (1 : Int32), rv b99, rv b107, rv b125, .unset, .unset, .unset, .unset, .unset] [(.int ((1 : Int32) + (1 : Int32)))])) rfl (hb hby at_140) rfl (by decide) (cap := 2) (by decide) (by decide) (by decide) (by decide)
    obtain ⟨b153, g153⟩ : ∃ z, z = T146.heap.size := ⟨_, rfl⟩
    rw [← g153] at A153 st153
    have f154 := (f147.keep K146 (ninS ne_b100_b125 nin0))
    have ne_b100_b153 : b100 ≠ b153 := Nat.ne_of_lt (Nat.lt_of_lt_of_le f154.lt (Nat.le_of_eq g153.symm))
    have f155 := (f148.keep K146 (ninS ne_b104_b125 nin0))
    have ne_b104_b153 : b104 ≠ b153 := Nat.ne_of_lt (Nat.lt_of_lt_of_le f155.lt (Nat.le_of_eq g153.symm))
    have f156 := (f149.keep K146)
    have ne_b107_b153 : b107 ≠ b153 := Nat.ne_of_lt (Nat.lt_of_lt_of_le f156.lt (Nat.le_of_eq g153.symm))
    have f157 := (f150.keep K146 (ninS ne_b109_b125 nin0))
    have ne_b109_b153 : b109 ≠ b153 := Nat.ne_of_lt (Nat.lt_of_lt_of_le f157.lt (Nat.le_of_eq g153.symm))
    have f158 := (f151.keep K146 (ninS ne_b121_b125 nin0))
    have ne_b121_b153 : b121 ≠ b153 := Nat.ne_of_lt (Nat.lt_of_lt_of_le f158.lt (Nat.le_of_eq g153.symm))
    have f159 := (f142.keep K146)
    have ne_b125_b153 : b125 ≠ b153 := Nat.ne_of_lt (Nat.lt_of_lt_of_le f159.lt (Nat.le_of_eq g153.symm))
    have f160 := (V141.keep K146 (ninS (Ne.symm ne_b125_b131) nin0))
    have ne_b131_b153 : b131 ≠ b153 := Nat.ne_of_lt (Nat.lt_of_lt_of_le f160.lt (Nat.le_of_eq g153.symm))
    have ne_b146_b153 : b146 ≠ b153 := Nat.ne_of_lt (Nat.lt_of_lt_of_le V146.lt (Nat.le_of_eq g153.symm))
    have f161 := (f152.keep K146)
    have ne_b99_b153 : b99 ≠ b153 := Nat.ne_of_lt (Nat.lt_of_lt_of_le f161.lt (Nat.le_of_eq g153.symm))
    have ge_b153 : n0 ≤ b153 := Nat.le_trans Zk146 (Nat.le_of_eq g153.symm)
    have sz_b153 : h0.size ≤ b153 := Nat.le_trans Kk146.1 (Nat.le_of_eq g153.symm)
    have Z153 : n0 ≤ h153.size := Nat.le_trans Zk146 E153.1
    have K153 : Keep h0 h153 [] := Kk146.ext E153
    have V153 : Arv Z h153 b153 k153 (.object "java/lang/String") ((1 : Int32) + (1 : Int32)) [.null, .null] .null := (Arv.new A153 (by decide)).pad (pad_rep [] .null 2)
    obtain ⟨cl162, Ar162, qk162, Sz162, Ng162, Hs162, Gs162⟩ := id V153
    have hin162 : ¬ ((0 : Int32) < 0 ∨ cl162.slots.size ≤ ((0 : Int32)).toNatClampNeg) := inb_of Sz162 ⟨by decide, by decide⟩
    have f163 := (f161.ext E153)
    obtain ⟨T164, h164, X164, e164, W164, st164⟩ := stR X153 hx hZ e153 Ar162 (j := (0 : Int32)) hin162 rfl (Sto.ofV Ar162 qk162 O153 (Ins.self f163)) (g := (mkF m 150 #[iv p0, iv p1, iv p2, iv p3, iv (((1 : Int32) + (1 : Int32))), iv (1 : Int32), iv (1 : Int32), rv b99, rv b107, rv b125, rv b153, .unset, .unset, .unset, .unset] [(.ref b99), (.int (0 : Int32)), (.ref b153)])) rfl rfl (hb hby at_150)
    have N164 := Fr.snoc X164 N146 ge_b153
    have Z164 : n0 ≤ h164.size := Nat.le_trans Z153 (Nat.le_of_eq W164.size.symm)
    have K164 : Keep h0 h164 [] := K153.wr W164 (Or.inr sz_b153)
    have V164 : Arv Z h164 b153 k153 (.object "java/lang/String") ((1 : Int32) + (1 : Int32)) [(.ref b99), .null] .null := Arv.set Ar162 qk162 Sz162 Ng162 Hs162 Gs162 rfl W164 0 rfl (Nat.le_of_ble_eq_true rfl)
    obtain ⟨cl165, Ar165, qk165, Sz165, Ng165, Hs165, Gs165⟩ := id V164
    have hin165 : ¬ ((1 : Int32) < 0 ∨ cl165.slots.size ≤ ((1 : Int32)).toNatClampNeg) := inb_of Sz165 ⟨by decide, by decide⟩
    have f166 := ((f156.ext E153).wr W164)
    obtain ⟨T167, h167, X167, e167, W167, st167⟩ := stR X164 hx hZ e164 Ar165 (j := (1 : Int32)) hin165 rfl (Sto.ofV Ar165 qk165 O153 (Ins.self f166)) (g := (mkF m 162 #[iv p0, iv p1, iv p2, iv p3, iv (((1 : Int32) + (1 : Int32))), iv (1 : Int32), iv (1 : Int32), rv b99, rv b107, rv b125, rv b153, .unset, .unset, .unset, .unset] [(.ref b107), (.int (1 : Int32)), (.ref b153)])) rfl rfl (hb hby at_162)
    have N167 := Fr.snoc X167 N164 ge_b153
    have Z167 : n0 ≤ h167.size := Nat.le_trans Z164 (Nat.le_of_eq W167.size.symm)
    have K167 : Keep h0 h167 [] := K164.wr W167 (Or.inr sz_b153)
    have V167 : Arv Z h167 b153 k153 (.object "java/lang/String") ((1 : Int32) + (1 : Int32)) [(.ref b99), (.ref b107)] .null := Arv.set Ar165 qk165 Sz165 Ng165 Hs165 Gs165 rfl W167 1 rfl (Nat.le_of_ble_eq_true rfl)
    obtain ⟨T168, h168, X168, e168, E168, A168, D168, -, st168⟩ := newO X167 hx hZ hown (hw _ (List.mem_of_getElem? (i := 32) rfl)) (hw _ (List.mem_of_getElem? (i := 33) rfl)) (hw _ (List.mem_of_getElem? (i := 34) rfl)) e167 (g := (mkF m 175 #[iv p0, iv p1, iv p2, iv p3, iv (((1 : Int32) + (1 : Int32))), iv (1 : Int32), iv (1 : Int32), rv b99, rv b107, rv b125, rv b153, .unset, .unset, .unset, .unset] [])) rfl (hb hby at_175) (by decide) (by decide)
    obtain ⟨b168, g168⟩ : ∃ z, z = h167.size := ⟨_, rfl⟩
    rw [← g168] at A168 D168 st168
    have f169 := (((f154.ext E153).other W164 ne_b100_b153).other W167 ne_b100_b153)
    have ne_b100_b168 : b100 ≠ b168 := Nat.ne_of_lt (Nat.lt_of_lt_of_le f169.lt (Nat.le_of_eq g168.symm))
    have f170 := (((f155.ext E153).other W164 ne_b104_b153).other W167 ne_b104_b153)
    have ne_b104_b168 : b104 ≠ b168 := Nat.ne_of_lt (Nat.lt_of_lt_of_le f170.lt (Nat.le_of_eq g168.symm))
    have f171 := (f166.wr W167)
    have ne_b107_b168 : b107 ≠ b168 := Nat.ne_of_lt (Nat.lt_of_lt_of_le f171.lt (Nat.le_of_eq g168.symm))
    have f172 := (((f157.ext E153).other W164 ne_b109_b153).other W167 ne_b109_b153)
    have ne_b109_b168 : b109 ≠ b168 := Nat.ne_of_lt (Nat.lt_of_lt_of_le f172.lt (Nat.le_of_eq g168.symm))
    have f173 := (((f158.ext E153).other W164 ne_b121_b153).other W167 ne_b121_b153)
    have ne_b121_b168 : b121 ≠ b168 := Nat.ne_of_lt (Nat.lt_of_lt_of_le f173.lt (Nat.le_of_eq g168.symm))
    have f174 := (((f159.ext E153).wr W164).wr W167)
    have ne_b125_b168 : b125 ≠ b168 := Nat.ne_of_lt (Nat.lt_of_lt_of_le f174.lt (Nat.le_of_eq g168.symm))
    have f175 := (((f160.ext E153).other W164 ne_b131_b153).other W167 ne_b131_b153)
    have ne_b131_b168 : b131 ≠ b168 := Nat.ne_of_lt (Nat.lt_of_lt_of_le f175.lt (Nat.le_of_eq g168.symm))
    have f176 := (((V146.ext E153).other W164 ne_b146_b153).other W167 ne_b146_b153)
    have ne_b146_b168 : b146 ≠ b168 := Nat.ne_of_lt (Nat.lt_of_lt_of_le f176.lt (Nat.le_of_eq g168.symm))
    have ne_b153_b168 : b153 ≠ b168 := Nat.ne_of_lt (Nat.lt_of_lt_of_le V167.lt (Nat.le_of_eq g168.symm))
    have f177 := ((f163.wr W164).wr W167)
    have ne_b99_b168 : b99 ≠ b168 := Nat.ne_of_lt (Nat.lt_of_lt_of_le f177.lt (Nat.le_of_eq g168.symm))
    have ge_b168 : n0 ≤ b168 := Nat.le_trans Z167 (Nat.le_of_eq g168.symm)
    have sz_b168 : h0.size ≤ b168 := Nat.le_trans K167.1 (Nat.le_of_eq g168.symm)
    have Z168 : n0 ≤ h168.size := Nat.le_trans Z167 E168.1
    have K168 : Keep h0 h168 [] := K167.ext E168
    have F168_arguments : Fld Z h168 b168 "com/example/steady_courier/steadycourier/OptionReader" "arguments" "[Ljava/lang/String;" .null := D168 (Or.inr (hw _ (List.mem_of_getElem? (i := 40) rfl))) (ty := (.array (.object "java/lang/String"))) (by decide)
    have F168_next : Fld Z h168 b168 "com/example/steady_courier/steadycourier/OptionReader" "next" "I" (.int (0 : Int32)) := D168 (Or.inl (hw _ (List.mem_of_getElem? (i := 47) rfl))) (ty := .int) (by decide)
    obtain ⟨_, T178, Lc178, X178, hQ178, st178⟩ := own_special (W := 1) (y := mN5) X168 hx hZ rfl hown (hw _ (List.mem_of_getElem? (i := 35) rfl)) (hw _ (List.mem_of_getElem? (i := 36) rfl)) (hw _ (List.mem_of_getElem? (i := 37) rfl)) (hw _ (List.mem_of_getElem? (i := 34) rfl)) (by decide) (rmInit l Z av0 hw [] b168 b153 h168 n0 Z168 A168 F168_arguments F168_next ge_b168) (by decide) (by decide) (g := (mkF m 181 #[iv p0, iv p1, iv p2, iv p3, iv (((1 : Int32) + (1 : Int32))), iv (1 : Int32), iv (1 : Int32), rv b99, rv b107, rv b125, rv b153, .unset, .unset, .unset, .unset] [(.ref b153), (.ref b168), (.ref b168)])) rfl (by rw [hml]; rfl) (a := b168) (argsL := [(.ref b153)]) (rest := [(.ref b168)]) (lenOf pd__Ljava_lang_String_V rfl) rfl (by show 2 * 0 + _ ≤ _; exact Nat.le_of_eq rfl) (hb hby at_181) rfl e168 (by decide : 12 + 0 ≤ _) (by decide : 28 + 0 ≤ _)
    obtain ⟨rfl, N178q, K178, FA178, FN178⟩ := hQ178
    have N178 := Fr.app N167 N178q
    have e178 : T178.heap = T178.heap := rfl
    have Zk178 : n0 ≤ T178.heap.size := Nat.le_trans Z168 K178.1
    have Kk178 : Keep h0 T178.heap [] := K168.trans K178 (allS (Or.inr sz_b168) all0)
    have f179 := ((V167.ext E168).keep K178 (ninS ne_b153_b168 nin0))
    have f181 := (A168.keep K178)
    obtain ⟨_, T180, Lc180, X180, hQ180, st180⟩ := own_virtual (W := 0) (y := mN6) (z := mN6) X178 hx hZ hown (hw _ (List.mem_of_getElem? (i := 41) rfl)) (hw _ (List.mem_of_getElem? (i := 42) rfl)) (notFace_of_selects (args := #[]) (mvT hZ (hw _ (List.mem_of_getElem? (i := 44) rfl)))) (hw _ (List.mem_of_getElem? (i := 44) rfl)) (hw _ (List.mem_of_getElem? (i := 43) rfl)) (hw _ (List.mem_of_getElem? (i := 45) rfl)) (hw _ (List.mem_of_getElem? (i := 34) rfl)) (by decide) (rmHas l Z av0 hw [] b168 b153 k153 ((1 : Int32) + (1 : Int32)) [(.ref b99), (.ref b107)] (0 : Int32) T178.heap n0 Zk178 FA178 FN178 f179) (by decide) (by decide) f181 (g := (mkF m 188 #[iv p0, iv p1, iv p2, iv p3, iv (((1 : Int32) + (1 : Int32))), iv (1 : Int32), iv (1 : Int32), rv b99, rv b107, rv b125, rv b153, rv b168, .unset, .unset, .unset] [(.ref b168)])) rfl (by rw [hml]; rfl) (argsL := []) (rest := []) (lenOf pd__Z rfl) rfl (by show 2 * 0 + _ ≤ _; exact Nat.le_of_eq rfl) (hb hby at_188) rfl e178 (by decide : 12 + 0 ≤ _) (by decide : 28 + 0 ≤ _)
    obtain ⟨rfl, N180q, hh180⟩ := hQ180
    have N180 := Fr.app N178 N180q
    have e180 : T180.heap = T178.heap := hh180
    obtain ⟨_, T182, Lc182, X182, hQ182, st182⟩ := own_virtual (W := 0) (y := mN7) (z := mN7) X180 hx hZ hown (hw _ (List.mem_of_getElem? (i := 48) rfl)) (hw _ (List.mem_of_getElem? (i := 49) rfl)) (notFace_of_selects (args := #[]) (mvT hZ (hw _ (List.mem_of_getElem? (i := 51) rfl)))) (hw _ (List.mem_of_getElem? (i := 51) rfl)) (hw _ (List.mem_of_getElem? (i := 50) rfl)) (hw _ (List.mem_of_getElem? (i := 52) rfl)) (hw _ (List.mem_of_getElem? (i := 34) rfl)) (by decide) (rmOpt l Z av0 hw [] b168 b153 k153 ((1 : Int32) + (1 : Int32)) [(.ref b99), (.ref b107)] (0 : Int32) b99 T178.heap n0 Zk178 FA178 FN178 f179 f181 ge_b168 (Ne.symm ne_b153_b168) (by decide) rfl) (by decide) (by decide) f181 (g := (mkF m 198 #[iv p0, iv p1, iv p2, iv p3, iv (((1 : Int32) + (1 : Int32))), iv (1 : Int32), iv (1 : Int32), rv b99, rv b107, rv b125, rv b153, rv b168, .unset, .unset, .unset] [(.ref b168)])) rfl (by rw [hml]; rfl) (argsL := []) (rest := []) (lenOf pd__Ljava_lang_String_ rfl) rfl (by show 2 * 0 + _ ≤ _; exact Nat.le_of_eq rfl) (hb hby at_198) rfl e180 (by decide : 12 + 0 ≤ _) (by decide : 28 + 0 ≤ _)
    obtain ⟨rfl, N182q, K182, FN182, FA182⟩ := hQ182
    have N182 := Fr.app N180 N182q
    have e182 : T182.heap = T182.heap := rfl
    have Zk182 : n0 ≤ T182.heap.size := Nat.le_trans Zk178 K182.1
    have Kk182 : Keep h0 T182.heap [] := Kk178.trans K182 (allS (Or.inr sz_b168) all0)
    have f184 := (((f177.ext E168).keep K178).keep K182)
    obtain ⟨_, T183, Lc183, X183, hQ183, st183⟩ := own_virtual (W := 0) (y := mN9) (z := mN9) X182 hx hZ hown (hw _ (List.mem_of_getElem? (i := 53) rfl)) (hw _ (List.mem_of_getElem? (i := 54) rfl)) (notFace_of_selects (args := #[]) (mvT hZ (hw _ (List.mem_of_getElem? (i := 56) rfl)))) (hw _ (List.mem_of_getElem? (i := 56) rfl)) (hw _ (List.mem_of_getElem? (i := 55) rfl)) (hw _ (List.mem_of_getElem? (i := 57) rfl)) (hw _ (List.mem_of_getElem? (i := 3) rfl)) (by decide) (rmSame l Z av0 hw [] b99 T182.heap n0 Zk182 ) (by decide) (by decide) f184 (g := (mkF m 207 #[iv p0, iv p1, iv p2, iv p3, iv (((1 : Int32) + (1 : Int32))), iv (1 : Int32), iv (1 : Int32), rv b99, rv b107, rv b125, rv b153, rv b168, rv b99, .unset, .unset] [(.ref b99), (.ref b99)])) rfl (by rw [hml]; rfl) (argsL := [(.ref b99)]) (rest := []) (lenOf pd__Ljava_lang_Object_Z rfl) rfl (by show 2 * 0 + _ ≤ _; exact Nat.le_of_eq rfl) (hb hby at_207) rfl e182 (by decide : 12 + 0 ≤ _) (by decide : 28 + 0 ≤ _)
    obtain ⟨rfl, N183q, hh183⟩ := hQ183
    have N183 := Fr.app N182 N183q
    have e183 : T183.heap = T182.heap := hh183
    have f185 := (f179.keep K182 (ninS ne_b153_b168 nin0))
    have f187 := (f181.keep K182)
    obtain ⟨_, T186, Lc186, X186, hQ186, st186⟩ := own_virtual (W := 0) (y := mN6) (z := mN6) X183 hx hZ hown (hw _ (List.mem_of_getElem? (i := 41) rfl)) (hw _ (List.mem_of_getElem? (i := 42) rfl)) (notFace_of_selects (args := #[]) (mvT hZ (hw _ (List.mem_of_getElem? (i := 44) rfl)))) (hw _ (List.mem_of_getElem? (i := 44) rfl)) (hw _ (List.mem_of_getElem? (i := 43) rfl)) (hw _ (List.mem_of_getElem? (i := 45) rfl)) (hw _ (List.mem_of_getElem? (i := 34) rfl)) (by decide) (rmHas l Z av0 hw [] b168 b153 k153 ((1 : Int32) + (1 : Int32)) [(.ref b99), (.ref b107)] ((0 : Int32) + (1 : Int32)) T182.heap n0 Zk182 FA182 FN182 f185) (by decide) (by decide) f187 (g := (mkF m 217 #[iv p0, iv p1, iv p2, iv p3, iv (((1 : Int32) + (1 : Int32))), iv (1 : Int32), iv (1 : Int32), rv b99, rv b107, rv b125, rv b153, rv b168, rv b99, .unset, .unset] [(.ref b168)])) rfl (by rw [hml]; rfl) (argsL := []) (rest := []) (lenOf pd__Z rfl) rfl (by show 2 * 0 + _ ≤ _; exact Nat.le_of_eq rfl) (hb hby at_217) rfl e183 (by decide : 12 + 0 ≤ _) (by decide : 28 + 0 ≤ _)
    obtain ⟨rfl, N186q, hh186⟩ := hQ186
    have N186 := Fr.app N183 N186q
    have e186 : T186.heap = T182.heap := hh186
    have f188 := (((((((((((FV121.ext E125).ext E131).other W139 (Or.inl ne_b107_b131)).other W141 (Or.inl ne_b107_b131)).keep K146 (ninS ne_b107_b125 nin0)).ext E153).other W164 (Or.inl ne_b107_b153)).other W167 (Or.inl ne_b107_b153)).ext E168).keep K178 (ninS ne_b107_b168 nin0)).keep K182 (ninS ne_b107_b168 nin0))
    have f189 := (((f173.ext E168).keep K178 (ninS ne_b121_b168 nin0)).keep K182 (ninS ne_b121_b168 nin0))
    have f190 := (((f171.ext E168).keep K178).keep K182)
    obtain ⟨_, T191, Lc191, X191, hQ191, st191⟩ := own_virtual (W := 0) (y := mN10) (z := mN10) X186 hx hZ hown (hw _ (List.mem_of_getElem? (i := 58) rfl)) (hw _ (List.mem_of_getElem? (i := 59) rfl)) (notFace_of_selects (args := #[]) (mvT hZ (hw _ (List.mem_of_getElem? (i := 61) rfl)))) (hw _ (List.mem_of_getElem? (i := 61) rfl)) (hw _ (List.mem_of_getElem? (i := 60) rfl)) (hw _ (List.mem_of_getElem? (i := 62) rfl)) (hw _ (List.mem_of_getElem? (i := 34) rfl)) (by decide) (rmVal l Z av0 hw [] b168 b153 k153 ((1 : Int32) + (1 : Int32)) [(.ref b99), (.ref b107)] ((0 : Int32) + (1 : Int32)) b107 b99 b121 kb121 (2 : Int32) [(.int (nar .byte ((nar .char ((p1 &&& (255 : Int32))).toUInt32.toUInt16.toUInt32.toInt32)).toInt8.toInt32)), (.int (nar .byte ((nar .char (98 : Int32))).toInt8.toInt32))] T182.heap n0 Zk182 FA182 FN182 f185 f187 ge_b168 (Ne.symm ne_b153_b168) (by decide) rfl f190 f188 f189 (by decide) (Ne.symm ne_b107_b168) (Ne.symm ne_b121_b168) (by decide)) (by decide) (by decide) f187 (g := (mkF m 253 #[iv p0, iv p1, iv p2, iv p3, iv (((1 : Int32) + (1 : Int32))), iv (1 : Int32), iv (1 : Int32), rv b99, rv b107, rv b125, rv b153, rv b168, rv b99, .unset, .unset] [(.ref b99), (.ref b168)])) rfl (by rw [hml]; rfl) (argsL := [(.ref b99)]) (rest := []) (lenOf pd__Ljava_lang_String_Ljava_lang_String_ rfl) rfl (by show 2 * 0 + _ ≤ _; exact Nat.le_of_eq rfl) (hb hby at_253) rfl e186 (by decide : 12 + 0 ≤ _) (by decide : 28 + 0 ≤ _)
    obtain ⟨rfl, N191q, K191, FN191, FA191⟩ := hQ191
    have N191 := Fr.app N186 N191q
    have e191 : T191.heap = T191.heap := rfl
    have Zk191 : n0 ≤ T191.heap.size := Nat.le_trans Zk182 K191.1
    have Kk191 : Keep h0 T191.heap [] := Kk182.trans K191 (allS (Or.inr sz_b168) all0)
    have f193 := (f190.keep K191)
    obtain ⟨_, T192, Lc192, X192, hQ192, st192⟩ := own_virtual (W := 0) (y := mN9) (z := mN9) X191 hx hZ hown (hw _ (List.mem_of_getElem? (i := 53) rfl)) (hw _ (List.mem_of_getElem? (i := 54) rfl)) (notFace_of_selects (args := #[]) (mvT hZ (hw _ (List.mem_of_getElem? (i := 56) rfl)))) (hw _ (List.mem_of_getElem? (i := 56) rfl)) (hw _ (List.mem_of_getElem? (i := 55) rfl)) (hw _ (List.mem_of_getElem? (i := 57) rfl)) (hw _ (List.mem_of_getElem? (i := 3) rfl)) (by decide) (rmSame l Z av0 hw [] b107 T191.heap n0 Zk191 ) (by decide) (by decide) f193 (g := (mkF m 270 #[iv p0, iv p1, iv p2, iv p3, iv (((1 : Int32) + (1 : Int32))), iv (1 : Int32), iv (1 : Int32), rv b99, rv b107, rv b125, rv b153, rv b168, rv b99, rv b107, .unset] [(.ref b107), (.ref b107)])) rfl (by rw [hml]; rfl) (argsL := [(.ref b107)]) (rest := []) (lenOf pd__Ljava_lang_Object_Z rfl) rfl (by show 2 * 0 + _ ≤ _; exact Nat.le_of_eq rfl) (hb hby at_270) rfl e191 (by decide : 12 + 0 ≤ _) (by decide : 28 + 0 ≤ _)
    obtain ⟨rfl, N192q, hh192⟩ := hQ192
    have N192 := Fr.app N191 N192q
    have e192 : T192.heap = T191.heap := hh192
    have f194 := (f185.keep K191 (ninS ne_b153_b168 nin0))
    have f196 := (f187.keep K191)
    obtain ⟨_, T195, Lc195, X195, hQ195, st195⟩ := own_virtual (W := 0) (y := mN6) (z := mN6) X192 hx hZ hown (hw _ (List.mem_of_getElem? (i := 41) rfl)) (hw _ (List.mem_of_getElem? (i := 42) rfl)) (notFace_of_selects (args := #[]) (mvT hZ (hw _ (List.mem_of_getElem? (i := 44) rfl)))) (hw _ (List.mem_of_getElem? (i := 44) rfl)) (hw _ (List.mem_of_getElem? (i := 43) rfl)) (hw _ (List.mem_of_getElem? (i := 45) rfl)) (hw _ (List.mem_of_getElem? (i := 34) rfl)) (by decide) (rmHas l Z av0 hw [] b168 b153 k153 ((1 : Int32) + (1 : Int32)) [(.ref b99), (.ref b107)] (((0 : Int32) + (1 : Int32)) + (1 : Int32)) T191.heap n0 Zk191 FA191 FN191 f194) (by decide) (by decide) f196 (g := (mkF m 280 #[iv p0, iv p1, iv p2, iv p3, iv (((1 : Int32) + (1 : Int32))), iv (1 : Int32), iv (1 : Int32), rv b99, rv b107, rv b125, rv b153, rv b168, rv b99, rv b107, .unset] [(.ref b168)])) rfl (by rw [hml]; rfl) (argsL := []) (rest := []) (lenOf pd__Z rfl) rfl (by show 2 * 0 + _ ≤ _; exact Nat.le_of_eq rfl) (hb hby at_280) rfl e192 (by decide : 12 + 0 ≤ _) (by decide : 28 + 0 ≤ _)
    obtain ⟨rfl, N195q, hh195⟩ := hQ195
    have N195 := Fr.app N192 N195q
    have e195 : T195.heap = T191.heap := hh195
    have S197 : ∀ t, Steps p.tables e below (T195.setTop (mkF m 306 #[iv p0, iv p1, iv p2, iv p3, iv (((1 : Int32) + (1 : Int32))), iv (1 : Int32), iv (1 : Int32), rv b99, rv b107, rv b125, rv b153, rv b168, rv b99, rv b107, .unset] [(.int (1 : Int32))])) t → Steps p.tables e below (s₁.setTop (mkF m 0 #[iv p0, iv p1, iv p2, iv p3, .unset, .unset, .unset, .unset, .unset, .unset, .unset, .unset, .unset, .unset, .unset] [])) t := fun t k => S105 t (by
      show Steps p.tables e below (T100.setTop (mkF m 54 #[iv p0, iv p1, iv p2, iv p3, iv (((1 : Int32) + (1 : Int32))), iv (1 : Int32), iv (1 : Int32), .unset, .unset, .unset, .unset, .unset, .unset, .unset, .unset] [(.ref b100), (.ref b99), (.ref b99)])) _
      refine st104 _ ?_
      refine XS.goto X104.here hx rfl (pc0 := 57) (pc' := 84) rfl (hb hby at_57) (by decide) (by decide) ?_
      show Steps p.tables e below (T104.setTop (mkF m 84 #[iv p0, iv p1, iv p2, iv p3, iv (((1 : Int32) + (1 : Int32))), iv (1 : Int32), iv (1 : Int32), .unset, .unset, .unset, .unset, .unset, .unset, .unset, .unset] [(.ref b99)])) _
      refine XS.astore X104.here hx rfl (hb hby at_84) rfl rfl (l' := #[iv p0, iv p1, iv p2, iv p3, iv (((1 : Int32) + (1 : Int32))), iv (1 : Int32), iv (1 : Int32), rv b99, .unset, .unset, .unset, .unset, .unset, .unset, .unset]) rfl ?_
      refine st107 _ ?_
      refine XS.dup X107.here hx rfl (hb hby at_89) rfl rfl ?_
      refine XT.iconstV X107.here hx rfl (2 : Int32) (hb hby at_90) (by decide) ?_
      refine st109 _ ?_
      refine XS.dup X109.here hx rfl (hb hby at_93) rfl rfl ?_
      show Steps p.tables e below (T109.setTop (mkF m 94 #[iv p0, iv p1, iv p2, iv p3, iv (((1 : Int32) + (1 : Int32))), iv (1 : Int32), iv (1 : Int32), rv b99, .unset, .unset, .unset, .unset, .unset, .unset, .unset] [(.ref b109), (.ref b109), (.ref b107), (.ref b107)])) _
      refine XT.iconstV X109.here hx rfl (0 : Int32) (hb hby at_94) (by decide) ?_
      refine XS.iloadN X109.here hx rfl (hb hby at_95) rfl ?_
      refine XT.sipushV X109.here hx rfl (255 : Int32) (hb hby at_96) (by decide) ?_
      refine XS.iand X109.here hx rfl (hb hby at_99) rfl ?_
      refine XT.i2c X109.here hx rfl (hb hby at_100) rfl ?_
      refine st114 _ ?_
      show Steps p.tables e below (T114.setTop (mkF m 102 #[iv p0, iv p1, iv p2, iv p3, iv (((1 : Int32) + (1 : Int32))), iv (1 : Int32), iv (1 : Int32), rv b99, .unset, .unset, .unset, .unset, .unset, .unset, .unset] [(.ref b109), (.ref b107), (.ref b107)])) _
      refine XS.dup X114.here hx rfl (hb hby at_102) rfl rfl ?_
      refine XT.iconstV X114.here hx rfl (1 : Int32) (hb hby at_103) (by decide) ?_
      refine XT.bipushV X114.here hx rfl (98 : Int32) (hb hby at_104) (by decide) ?_
      refine st116 _ ?_
      refine st121 _ ?_
      refine XS.astore X121.here hx rfl (hb hby at_110) rfl rfl (l' := #[iv p0, iv p1, iv p2, iv p3, iv (((1 : Int32) + (1 : Int32))), iv (1 : Int32), iv (1 : Int32), rv b99, rv b107, .unset, .unset, .unset, .unset, .unset, .unset]) rfl ?_
      show Steps p.tables e below (T121.setTop (mkF m 112 #[iv p0, iv p1, iv p2, iv p3, iv (((1 : Int32) + (1 : Int32))), iv (1 : Int32), iv (1 : Int32), rv b99, rv b107, .unset, .unset, .unset, .unset, .unset, .unset] [])) _
      refine st125 _ ?_
      refine XS.dup X125.here hx rfl (hb hby at_115) rfl rfl ?_
      refine XT.iconstV X125.here hx rfl (2 : Int32) (hb hby at_116) (by decide) ?_
      refine st131 _ ?_
      refine XS.dup X131.here hx rfl (hb hby at_119) rfl rfl ?_
      refine XT.iconstV X131.here hx rfl (0 : Int32) (hb hby at_120) (by decide) ?_
      show Steps p.tables e below (T131.setTop (mkF m 121 #[iv p0, iv p1, iv p2, iv p3, iv (((1 : Int32) + (1 : Int32))), iv (1 : Int32), iv (1 : Int32), rv b99, rv b107, .unset, .unset, .unset, .unset, .unset, .unset] [(.int (0 : Int32)), (.ref b131), (.ref b131), (.ref b125), (.ref b125)])) _
      refine XS.iloadN X131.here hx rfl (hb hby at_121) rfl ?_
      refine XT.sipushV X131.here hx rfl (255 : Int32) (hb hby at_122) (by decide) ?_
      refine XS.iand X131.here hx rfl (hb hby at_125) rfl ?_
      refine XT.i2c X131.here hx rfl (hb hby at_126) rfl ?_
      refine st139 _ ?_
      refine XS.dup X139.here hx rfl (hb hby at_128) rfl rfl ?_
      show Steps p.tables e below (T139.setTop (mkF m 129 #[iv p0, iv p1, iv p2, iv p3, iv (((1 : Int32) + (1 : Int32))), iv (1 : Int32), iv (1 : Int32), rv b99, rv b107, .unset, .unset, .unset, .unset, .unset, .unset] [(.ref b131), (.ref b131), (.ref b125), (.ref b125)])) _
      refine XT.iconstV X139.here hx rfl (1 : Int32) (hb hby at_129) (by decide) ?_
      refine XT.bipushV X139.here hx rfl (99 : Int32) (hb hby at_130) (by decide) ?_
      refine st141 _ ?_
      refine st146 _ ?_
      refine XS.astore X146.here hx rfl (hb hby at_136) rfl rfl (l' := #[iv p0, iv p1, iv p2, iv p3, iv (((1 : Int32) + (1 : Int32))), iv (1 : Int32), iv (1 : Int32), rv b99, rv b107, rv b125, .unset, .unset, .unset, .unset, .unset]) rfl ?_
      refine XS.iload X146.here hx rfl (hb hby at_138) rfl ?_
      show Steps p.tables e below (T146.setTop (mkF m 140 #[iv p0, iv p1, iv p2, iv p3, iv (((1 : Int32) + (1 : Int32))), iv (1 : Int32), iv (1 : Int32), rv b99, rv b107, rv b125, .unset, .unset, .unset, .unset, .unset] [(.int ((1 : Int32) + (1 : Int32)))])) _
      refine st153 _ ?_
      refine XS.astore X153.here hx rfl (hb hby at_143) rfl rfl (l' := #[iv p0, iv p1, iv p2, iv p3, iv (((1 : Int32) + (1 : Int32))), iv (1 : Int32), iv (1 : Int32), rv b99, rv b107, rv b125, rv b153, .unset, .unset, .unset, .unset]) rfl ?_
      refine XS.aload X153.here hx rfl (hb hby at_145) rfl rfl ?_
      refine XT.iconstV X153.here hx rfl (0 : Int32) (hb hby at_147) (by decide) ?_
      refine XS.aload X153.here hx rfl (hb hby at_148) rfl rfl ?_
      refine st164 _ ?_
      show Steps p.tables e below (T164.setTop (mkF m 151 #[iv p0, iv p1, iv p2, iv p3, iv (((1 : Int32) + (1 : Int32))), iv (1 : Int32), iv (1 : Int32), rv b99, rv b107, rv b125, rv b153, .unset, .unset, .unset, .unset] [])) _
      refine XS.iload X164.here hx rfl (hb hby at_151) rfl ?_
      refine XT.iconstV X164.here hx rfl (1 : Int32) (hb hby at_153) (by decide) ?_
      refine XS.icmpNo X164.here hx rfl (hb hby at_154) rfl (XT.ii_le_f (by decide)) ?_
      refine XS.aload X164.here hx rfl (hb hby at_157) rfl rfl ?_
      refine XT.iconstV X164.here hx rfl (1 : Int32) (hb hby at_159) (by decide) ?_
      refine XS.aload X164.here hx rfl (hb hby at_160) rfl rfl ?_
      show Steps p.tables e below (T164.setTop (mkF m 162 #[iv p0, iv p1, iv p2, iv p3, iv (((1 : Int32) + (1 : Int32))), iv (1 : Int32), iv (1 : Int32), rv b99, rv b107, rv b125, rv b153, .unset, .unset, .unset, .unset] [(.ref b107), (.int (1 : Int32)), (.ref b153)])) _
      refine st167 _ ?_
      refine XS.iload X167.here hx rfl (hb hby at_163) rfl ?_
      refine XT.iconstV X167.here hx rfl (2 : Int32) (hb hby at_165) (by decide) ?_
      refine XS.icmpYes X167.here hx rfl (pc0 := 166) (pc' := 175) rfl (hb hby at_166) rfl (XT.ii_le_t (by decide)) (by decide) (by decide) ?_
      refine st168 _ ?_
      refine XS.dup X168.here hx rfl (hb hby at_178) rfl rfl ?_
      show Steps p.tables e below (T168.setTop (mkF m 179 #[iv p0, iv p1, iv p2, iv p3, iv (((1 : Int32) + (1 : Int32))), iv (1 : Int32), iv (1 : Int32), rv b99, rv b107, rv b125, rv b153, .unset, .unset, .unset, .unset] [(.ref b168), (.ref b168)])) _
      refine XS.aload X168.here hx rfl (hb hby at_179) rfl rfl ?_
      refine st178 _ ?_
      refine XS.astore X178.here hx rfl (hb hby at_184) rfl rfl (l' := #[iv p0, iv p1, iv p2, iv p3, iv (((1 : Int32) + (1 : Int32))), iv (1 : Int32), iv (1 : Int32), rv b99, rv b107, rv b125, rv b153, rv b168, .unset, .unset, .unset]) rfl ?_
      refine XS.aload X178.here hx rfl (hb hby at_186) rfl rfl ?_
      refine st180 _ ?_
      refine XS.ifYes X180.here hx rfl (pc0 := 191) (pc' := 196) rfl (hb hby at_191) rfl (XT.i0_ne_t (by decide)) (by decide) (by decide) ?_
      show Steps p.tables e below (T180.setTop (mkF m 196 #[iv p0, iv p1, iv p2, iv p3, iv (((1 : Int32) + (1 : Int32))), iv (1 : Int32), iv (1 : Int32), rv b99, rv b107, rv b125, rv b153, rv b168, .unset, .unset, .unset] [])) _
      refine XS.aload X180.here hx rfl (hb hby at_196) rfl rfl ?_
      refine st182 _ ?_
      refine XS.astore X182.here hx rfl (hb hby at_201) rfl rfl (l' := #[iv p0, iv p1, iv p2, iv p3, iv (((1 : Int32) + (1 : Int32))), iv (1 : Int32), iv (1 : Int32), rv b99, rv b107, rv b125, rv b153, rv b168, rv b99, .unset, .unset]) rfl ?_
      refine XS.aload X182.here hx rfl (hb hby at_203) rfl rfl ?_
      refine XS.aload X182.here hx rfl (hb hby at_205) rfl rfl ?_
      refine st183 _ ?_
      show Steps p.tables e below (T183.setTop (mkF m 210 #[iv p0, iv p1, iv p2, iv p3, iv (((1 : Int32) + (1 : Int32))), iv (1 : Int32), iv (1 : Int32), rv b99, rv b107, rv b125, rv b153, rv b168, rv b99, .unset, .unset] [(.int (1 : Int32))])) _
      refine XS.ifYes X183.here hx rfl (pc0 := 210) (pc' := 215) rfl (hb hby at_210) rfl (XT.i0_ne_t (by decide)) (by decide) (by decide) ?_
      refine XS.aload X183.here hx rfl (hb hby at_215) rfl rfl ?_
      refine st186 _ ?_
      refine XS.iload X186.here hx rfl (hb hby at_220) rfl ?_
      refine XT.iconstV X186.here hx rfl (1 : Int32) (hb hby at_222) (by decide) ?_
      refine XS.icmpNo X186.here hx rfl (hb hby at_223) rfl (XT.ii_le_f (by decide)) ?_
      show Steps p.tables e below (T186.setTop (mkF m 226 #[iv p0, iv p1, iv p2, iv p3, iv (((1 : Int32) + (1 : Int32))), iv (1 : Int32), iv (1 : Int32), rv b99, rv b107, rv b125, rv b153, rv b168, rv b99, .unset, .unset] [(.int (own_lt ((0 : Int32) + (1 : Int32)) ((1 : Int32) + (1 : Int32))))])) _
      refine XT.iconstV X186.here hx rfl (1 : Int32) (hb hby at_226) (by decide) ?_
      refine XS.goto X186.here hx rfl (pc0 := 227) (pc' := 231) rfl (hb hby at_227) (by decide) (by decide) ?_
      refine XS.icmpYes X186.here hx rfl (pc0 := 231) (pc' := 236) rfl (hb hby at_231) rfl (XT.ii_eq_t (by decide)) (by decide) (by decide) ?_
      refine XS.iload X186.here hx rfl (hb hby at_236) rfl ?_
      refine XT.iconstV X186.here hx rfl (1 : Int32) (hb hby at_238) (by decide) ?_
      refine XS.icmpYes X186.here hx rfl (pc0 := 239) (pc' := 244) rfl (hb hby at_239) rfl (XT.ii_ne_t (by decide)) (by decide) (by decide) ?_
      show Steps p.tables e below (T186.setTop (mkF m 244 #[iv p0, iv p1, iv p2, iv p3, iv (((1 : Int32) + (1 : Int32))), iv (1 : Int32), iv (1 : Int32), rv b99, rv b107, rv b125, rv b153, rv b168, rv b99, .unset, .unset] [])) _
      refine XS.iload X186.here hx rfl (hb hby at_244) rfl ?_
      refine XS.ifNo X186.here hx rfl (hb hby at_246) rfl (XT.i0_eq_f (by decide)) ?_
      refine XS.aload X186.here hx rfl (hb hby at_249) rfl rfl ?_
      refine XS.aload X186.here hx rfl (hb hby at_251) rfl rfl ?_
      refine st191 _ ?_
      refine XS.goto X191.here hx rfl (pc0 := 256) (pc' := 264) rfl (hb hby at_256) (by decide) (by decide) ?_
      show Steps p.tables e below (T191.setTop (mkF m 264 #[iv p0, iv p1, iv p2, iv p3, iv (((1 : Int32) + (1 : Int32))), iv (1 : Int32), iv (1 : Int32), rv b99, rv b107, rv b125, rv b153, rv b168, rv b99, .unset, .unset] [(.ref b107)])) _
      refine XS.astore X191.here hx rfl (hb hby at_264) rfl rfl (l' := #[iv p0, iv p1, iv p2, iv p3, iv (((1 : Int32) + (1 : Int32))), iv (1 : Int32), iv (1 : Int32), rv b99, rv b107, rv b125, rv b153, rv b168, rv b99, rv b107, .unset]) rfl ?_
      refine XS.aload X191.here hx rfl (hb hby at_266) rfl rfl ?_
      refine XS.aload X191.here hx rfl (hb hby at_268) rfl rfl ?_
      refine st192 _ ?_
      refine XS.ifYes X192.here hx rfl (pc0 := 273) (pc' := 278) rfl (hb hby at_273) rfl (XT.i0_ne_t (by decide)) (by decide) (by decide) ?_
      refine XS.aload X192.here hx rfl (hb hby at_278) rfl rfl ?_
      show Steps p.tables e below (T192.setTop (mkF m 280 #[iv p0, iv p1, iv p2, iv p3, iv (((1 : Int32) + (1 : Int32))), iv (1 : Int32), iv (1 : Int32), rv b99, rv b107, rv b125, rv b153, rv b168, rv b99, rv b107, .unset] [(.ref b168)])) _
      refine st195 _ ?_
      refine XS.iload X195.here hx rfl (hb hby at_283) rfl ?_
      refine XT.iconstV X195.here hx rfl (2 : Int32) (hb hby at_285) (by decide) ?_
      refine XS.icmpYes X195.here hx rfl (pc0 := 286) (pc' := 293) rfl (hb hby at_286) rfl (XT.ii_le_t (by decide)) (by decide) (by decide) ?_
      refine XT.iconstV X195.here hx rfl (0 : Int32) (hb hby at_293) (by decide) ?_
      refine XS.icmpYes X195.here hx rfl (pc0 := 294) (pc' := 299) rfl (hb hby at_294) rfl (XT.ii_eq_t (by decide)) (by decide) (by decide) ?_
      show Steps p.tables e below (T195.setTop (mkF m 299 #[iv p0, iv p1, iv p2, iv p3, iv (((1 : Int32) + (1 : Int32))), iv (1 : Int32), iv (1 : Int32), rv b99, rv b107, rv b125, rv b153, rv b168, rv b99, rv b107, .unset] [])) _
      refine XS.iload X195.here hx rfl (hb hby at_299) rfl ?_
      refine XT.iconstV X195.here hx rfl (2 : Int32) (hb hby at_301) (by decide) ?_
      refine XS.icmpNo X195.here hx rfl (hb hby at_302) rfl (XT.ii_ne_f (by decide)) ?_
      refine XT.iconstV X195.here hx rfl (1 : Int32) (hb hby at_305) (by decide) ?_
      exact k)
    obtain ⟨fs, hr, hrun, hended, hEnd⟩ := X195.leaveW hS104 (by rw [e195]; exact (Nat.le_trans (Nat.le_trans (Nat.le_trans (Nat.le_trans (Nat.le_trans (Nat.le_trans (Nat.le_trans (Nat.le_trans (Nat.le_trans (Nat.le_trans (Nat.le_trans (Nat.le_trans (Nat.le_trans (Nat.le_trans (Nat.le_trans (Nat.le_trans (Nat.le_trans (Nat.le_refl _) E107.1) E109.1) (Nat.le_of_eq W114.size.symm)) (Nat.le_of_eq W116.size.symm)) K121.1) E125.1) E131.1) (Nat.le_of_eq W139.size.symm)) (Nat.le_of_eq W141.size.symm)) K146.1) E153.1) (Nat.le_of_eq W164.size.symm)) (Nat.le_of_eq W167.size.symm)) E168.1) K178.1) K182.1) K191.1)) (v := some (.int (1 : Int32))) (fun h => by rw [Bd.returns] at h; cases h)
    refine ⟨_, _, pre0 _ (S197 _ ?_), hrun, hended, _, _, rfl, ?_, hEnd.1, hEnd.2.1, hEnd.2.2.1, hEnd.2.2.2.mono (by decide) (by decide)⟩
    · exact retN X195 hx (t := .boolean) Bd.returns (by simp) (hb hby at_306) hr
    · show Qrm0 Z p0 p1 p2 p3 wC h0 n0 _ T195.heap _
      rw [e195]
      exact ⟨rfl, N195⟩
set_option maxRecDepth 65536 in
set_option maxHeartbeats 40000000 in
theorem rm0_3_0 (l : Launch) (Z : State) (av0 : Array Value) (hw : ∀ d ∈ tables_1, d.before av0 Z = true) (ws : List Jvm.Cond) (p0 : Int32) (p1 : Int32) (p2 : Int32) (p3 : Int32) (wC : Int32) (h0 : Heap) (n0 : Nat) (Z0 : n0 ≤ h0.size) (hS : Sta Z h0 "java/lang/String" "COMPACT_STRINGS" "Z" (.int wC)) (hw0 : ¬ wC = (0 : Int32)) (hkp : ∀ (b : Addr) (cl : Cell), Z.heap[b]? = some cl → h0[b]? = some cl) (hcH : Jvm.Lit.constHeld Z "java/lang/String" 7) (hcw : Jvm.Lit.compactW.before av0 Z = true) (hk : own_P p3 (3 : Int32) = (2 : Int32)) (he : XT.ushr p3 (9 : Int32) &&& (1 : Int32) = (0 : Int32)) :
    MetFree l x (head1 (Jvm.Cond.code x code maxLocals ret :: ws) room_1) (fun aU U => aU = #[(.int p0), (.int p1), (.int p2), (.int p3)] ∧ Z.Warmed39 U.vm ∧ U.heap = h0 ∧ IB Z U.vm []) (fun _ _ _ _ _ => True) (fun _ U oU U' => ∃ vU LU, oU = .returned vU ∧ Qrm0 Z p0 p1 p2 p3 wC h0 n0 vU U'.heap LU ∧ ReturnedEndW U oU U' LU room_1.cells room_1.slots) := by
  refine MetFree.of_bodySF (plainFor_of_name pn_OptionReaderOptionPinLaw) hisR ?_
  intro p e s m args below meth c s₁ Bd hml0 hP hK
  obtain ⟨rfl, hZ, hh, hI⟩ := hP
  have hx := Bd.exec
  have hby := Bd.bytes
  have hml : c.maxLocals = 15 := hml0
  have hown : s.vm.findClass "com/example/steady_courier/steadycourier/OptionReaderOptionPinLaw" = some m.cls := findClass_of_methodNamed Bd.named
  have hnm := (name_of_methodNamed Bd.named Bd.method).1
  have X0 : Stand p l e room_1 s m #[(.int p0), (.int p1), (.int p2), (.int p3)] below meth c s₁ [] 0 0 := Stand.of_body Bd
  have e0 : s₁.heap = h0 := by rw [← hh, Bd.state]; rfl
  have N0 := Fr.nil n0
  have pre0 : ∀ t, Steps p.tables e below (s₁.setTop (mkF m 0 #[iv p0, iv p1, iv p2, iv p3, .unset, .unset, .unset, .unset, .unset, .unset, .unset, .unset, .unset, .unset, .unset] [])) t → Steps p.tables e below (s₁.setTop (entryFrame m #[(.int p0), (.int p1), (.int p2), (.int p3)] maxLocals)) t := fun t k => castTop (by first | (simp [entryFrame, mkF, argsToLocals, Value.category, maxLocals]; done) | rfl) k
  have S1 : ∀ t, Steps p.tables e below (s₁.setTop (mkF m 16 #[iv p0, iv p1, iv p2, iv p3, iv (((1 : Int32) + (2 : Int32))), .unset, .unset, .unset, .unset, .unset, .unset, .unset, .unset, .unset, .unset] [(.int ((XT.ushr p3 (8 : Int32)) &&& (1 : Int32)))])) t → Steps p.tables e below (s₁.setTop (mkF m 0 #[iv p0, iv p1, iv p2, iv p3, .unset, .unset, .unset, .unset, .unset, .unset, .unset, .unset, .unset, .unset, .unset] [])) t := fun t k => id (by
    show Steps p.tables e below (s₁.setTop (mkF m 0 #[iv p0, iv p1, iv p2, iv p3, .unset, .unset, .unset, .unset, .unset, .unset, .unset, .unset, .unset, .unset, .unset] [])) _
    refine XT.iconstV X0.here hx rfl (1 : Int32) (hb hby at_0) (by decide) ?_
    refine XS.iloadN X0.here hx rfl (hb hby at_1) rfl ?_
    refine X0.ldcI hx hown (mvT hZ (hw _ (List.mem_of_getElem? (i := 0) rfl))) rfl (hb hby at_2) ?_
    refine XS.iand X0.here hx rfl (hb hby at_4) rfl ?_
    refine XT.iconstV X0.here hx rfl (3 : Int32) (hb hby at_5) (by decide) ?_
    refine XS.irem X0.here hx rfl (hb hby at_6) rfl (by decide) ?_
    show Steps p.tables e below (s₁.setTop (mkF m 7 #[iv p0, iv p1, iv p2, iv p3, .unset, .unset, .unset, .unset, .unset, .unset, .unset, .unset, .unset, .unset, .unset] [(.int ((p3 &&& (2147483647 : Int32)) - ((p3 &&& (2147483647 : Int32)) / (3 : Int32)) * (3 : Int32))), (.int (1 : Int32))])) _
    show Steps p.tables e below (s₁.setTop (mkF m 7 #[iv p0, iv p1, iv p2, iv p3, .unset, .unset, .unset, .unset, .unset, .unset, .unset, .unset, .unset, .unset, .unset] [(.int ((p3 &&& (2147483647 : Int32)) - ((p3 &&& (2147483647 : Int32)) / (3 : Int32)) * (3 : Int32))), (.int (1 : Int32))])) _
    show Steps p.tables e below (s₁.setTop (mkF m 7 #[iv p0, iv p1, iv p2, iv p3, .unset, .unset, .unset, .unset, .unset, .unset, .unset, .unset, .unset, .unset, .unset] [(.int (own_P p3 (3 : Int32))), (.int (1 : Int32))])) _
    rw [hk]
    show Steps p.tables e below (s₁.setTop (mkF m 7 #[iv p0, iv p1, iv p2, iv p3, .unset, .unset, .unset, .unset, .unset, .unset, .unset, .unset, .unset, .unset, .unset] [(.int (2 : Int32)), (.int (1 : Int32))])) _
    refine XS.iadd X0.here hx rfl (hb hby at_7) rfl ?_
    refine XS.istore X0.here hx rfl (hb hby at_8) rfl (l' := #[iv p0, iv p1, iv p2, iv p3, iv (((1 : Int32) + (2 : Int32))), .unset, .unset, .unset, .unset, .unset, .unset, .unset, .unset, .unset, .unset]) rfl ?_
    refine XS.iloadN X0.here hx rfl (hb hby at_10) rfl ?_
    refine XT.bipushV X0.here hx rfl (8 : Int32) (hb hby at_11) (by decide) ?_
    refine XT.iushr X0.here hx rfl (hb hby at_13) rfl ?_
    show Steps p.tables e below (s₁.setTop (mkF m 14 #[iv p0, iv p1, iv p2, iv p3, iv (((1 : Int32) + (2 : Int32))), .unset, .unset, .unset, .unset, .unset, .unset, .unset, .unset, .unset, .unset] [(.int (XT.ushr p3 (8 : Int32)))])) _
    refine XT.iconstV X0.here hx rfl (1 : Int32) (hb hby at_14) (by decide) ?_
    refine XS.iand X0.here hx rfl (hb hby at_15) rfl ?_
    exact k)
  by_cases hc16_2 : ((XT.ushr p3 (8 : Int32)) &&& (1 : Int32)) = (0 : Int32)
  · obtain ⟨T3, h3, X3, e3, E3, A3, D3, -, st3⟩ := newO X0 hx hZ hown (hw _ (List.mem_of_getElem? (i := 1) rfl)) (hw _ (List.mem_of_getElem? (i := 2) rfl)) (hw _ (List.mem_of_getElem? (i := 3) rfl)) e0 (g := (mkF m 60 #[iv p0, iv p1, iv p2, iv p3, iv (((1 : Int32) + (2 : Int32))), iv (0 : Int32), iv (0 : Int32), .unset, .unset, .unset, .unset, .unset, .unset, .unset, .unset] [])) rfl (hb hby at_60) (by decide) (by decide)
    obtain ⟨b3, g3⟩ : ∃ z, z = h0.size := ⟨_, rfl⟩
    rw [← g3] at A3 D3 st3
    have ge_b3 : n0 ≤ b3 := Nat.le_trans Z0 (Nat.le_of_eq g3.symm)
    have sz_b3 : h0.size ≤ b3 := Nat.le_of_eq g3.symm
    have Z3 : n0 ≤ h3.size := Nat.le_trans Z0 E3.1
    have K3 : Keep h0 h3 [] := (Keep.refl h0 []).ext E3
    have F3_coder : Fld Z h3 b3 "java/lang/String" "coder" "B" (.int (0 : Int32)) := D3 (Or.inr (hw _ (List.mem_of_getElem? (i := 28) rfl))) (ty := .byte) (by decide)
    have F3_value : Fld Z h3 b3 "java/lang/String" "value" "[B" .null := D3 (Or.inr (hw _ (List.mem_of_getElem? (i := 30) rfl))) (ty := (.array .byte)) (by decide)
    obtain ⟨T4, h4, k4, X4, e4, E4, A4, st4⟩ := newP X3 hx hZ (hw _ (List.mem_of_getElem? (i := 4) rfl)) e3 (g := (mkF m 65 #[iv p0, iv p1, iv p2, iv p3, iv (((1 : Int32) + (2 : Int32))), iv (0 : Int32), iv (0 : Int32), .unset, .unset, .unset, .unset, .unset, .unset, .unset, .unset] [(.int (2 : Int32)), (.ref b3), (.ref b3)])) rfl (hb hby at_65) rfl (by decide) (cap := 2) (by decide) (by decide) (by decide) (by decide)
    obtain ⟨b4, g4⟩ : ∃ z, z = h3.size := ⟨_, rfl⟩
    rw [← g4] at A4 st4
    have ne_b3_b4 : b3 ≠ b4 := Nat.ne_of_lt (Nat.lt_of_lt_of_le A3.lt (Nat.le_of_eq g4.symm))
    have ge_b4 : n0 ≤ b4 := Nat.le_trans Z3 (Nat.le_of_eq g4.symm)
    have sz_b4 : h0.size ≤ b4 := Nat.le_trans K3.1 (Nat.le_of_eq g4.symm)
    have Z4 : n0 ≤ h4.size := Nat.le_trans Z3 E4.1
    have K4 : Keep h0 h4 [] := K3.ext E4
    have V4 : Arv Z h4 b4 k4 .char (2 : Int32) [(.int (0 : Int32)), (.int (0 : Int32))] (.int (0 : Int32)) := (Arv.new A4 (by decide)).pad (pad_rep [] (.int (0 : Int32)) 2)
    obtain ⟨cl5, Ar5, qk5, Sz5, Ng5, Hs5, Gs5⟩ := id V4
    have hin5 : ¬ ((0 : Int32) < 0 ∨ cl5.slots.size ≤ ((0 : Int32)).toNatClampNeg) := inb_of Sz5 ⟨by decide, by decide⟩
    obtain ⟨T6, h6, X6, e6, W6, st6⟩ := stC X4 hx hZ e4 Ar5 (j := (0 : Int32)) hin5 (g := (mkF m 75 #[iv p0, iv p1, iv p2, iv p3, iv (((1 : Int32) + (2 : Int32))), iv (0 : Int32), iv (0 : Int32), .unset, .unset, .unset, .unset, .unset, .unset, .unset, .unset] [(.int ((p0 &&& (255 : Int32))).toUInt32.toUInt16.toUInt32.toInt32), (.int (0 : Int32)), (.ref b4), (.ref b4), (.ref b3), (.ref b3)])) rfl rfl (hb hby at_75)
    have N6 := Fr.snoc X6 N0 ge_b4
    have Z6 : n0 ≤ h6.size := Nat.le_trans Z4 (Nat.le_of_eq W6.size.symm)
    have K6 : Keep h0 h6 [] := K4.wr W6 (Or.inr sz_b4)
    have V6 : Arv Z h6 b4 k4 .char (2 : Int32) [(.int (nar .char ((p0 &&& (255 : Int32))).toUInt32.toUInt16.toUInt32.toInt32)), (.int (0 : Int32))] (.int (0 : Int32)) := Arv.set Ar5 qk5 Sz5 Ng5 Hs5 Gs5 (fits_nar_char _) W6 0 rfl (Nat.le_of_ble_eq_true rfl)
    obtain ⟨cl7, Ar7, qk7, Sz7, Ng7, Hs7, Gs7⟩ := id V6
    have hin7 : ¬ ((1 : Int32) < 0 ∨ cl7.slots.size ≤ ((1 : Int32)).toNatClampNeg) := inb_of Sz7 ⟨by decide, by decide⟩
    obtain ⟨T8, h8, X8, e8, W8, st8⟩ := stC X6 hx hZ e6 Ar7 (j := (1 : Int32)) hin7 (g := (mkF m 80 #[iv p0, iv p1, iv p2, iv p3, iv (((1 : Int32) + (2 : Int32))), iv (0 : Int32), iv (0 : Int32), .unset, .unset, .unset, .unset, .unset, .unset, .unset, .unset] [(.int (97 : Int32)), (.int (1 : Int32)), (.ref b4), (.ref b4), (.ref b3), (.ref b3)])) rfl rfl (hb hby at_80)
    have N8 := Fr.snoc X8 N6 ge_b4
    have Z8 : n0 ≤ h8.size := Nat.le_trans Z6 (Nat.le_of_eq W8.size.symm)
    have K8 : Keep h0 h8 [] := K6.wr W8 (Or.inr sz_b4)
    have V8 : Arv Z h8 b4 k4 .char (2 : Int32) [(.int (nar .char ((p0 &&& (255 : Int32))).toUInt32.toUInt16.toUInt32.toInt32)), (.int (nar .char (97 : Int32)))] (.int (0 : Int32)) := Arv.set Ar7 qk7 Sz7 Ng7 Hs7 Gs7 (fits_nar_char _) W8 1 rfl (Nat.le_of_ble_eq_true rfl)
    have f9 := (((A3.ext E4).wr W6).wr W8)
    have f10 := (((F3_value.ext E4).other W6 (Or.inl ne_b3_b4)).other W8 (Or.inl ne_b3_b4))
    have f11 := (((F3_coder.ext E4).other W6 (Or.inl ne_b3_b4)).other W8 (Or.inl ne_b3_b4))
    have f12 := ((((hS.ext E3).ext E4).wr W6).wr W8)
    obtain ⟨_, T13, Lc13, X13, hQ13, st13⟩ := own_special (W := 1) (y := mN4) X8 hx hZ rfl hown (hw _ (List.mem_of_getElem? (i := 5) rfl)) (hw _ (List.mem_of_getElem? (i := 6) rfl)) (hw _ (List.mem_of_getElem? (i := 7) rfl)) (hw _ (List.mem_of_getElem? (i := 3) rfl)) (by decide) (rmSi2_2 l Z av0 hw [] b3 b4 k4 wC (nar .char ((p0 &&& (255 : Int32))).toUInt32.toUInt16.toUInt32.toInt32) (nar .char (97 : Int32)) h8 n0 Z8 f9 f10 f11 ge_b3 V8 f12 hw0 (own_ch p0) (by decide)) (by decide) (by decide) (g := (mkF m 81 #[iv p0, iv p1, iv p2, iv p3, iv (((1 : Int32) + (2 : Int32))), iv (0 : Int32), iv (0 : Int32), .unset, .unset, .unset, .unset, .unset, .unset, .unset, .unset] [(.ref b4), (.ref b3), (.ref b3)])) rfl (by rw [hml]; rfl) (a := b3) (argsL := [(.ref b4)]) (rest := [(.ref b3)]) (lenOf pd__C_V rfl) rfl (by show 2 * 0 + _ ≤ _; exact Nat.le_of_eq rfl) (hb hby at_81) rfl e8 (by decide : 2 + 1 ≤ _) (by decide : 6 + 2 ≤ _)
    obtain ⟨rfl, N13q, K13, FC13, b13, kb13, FV13, V13, gb13⟩ := hQ13
    have N13 := Fr.app N8 N13q
    have e13 : T13.heap = T13.heap := rfl
    have ne_b3_b13 : b3 ≠ b13 := Nat.ne_of_lt (Nat.lt_of_lt_of_le f9.lt gb13)
    have ne_b4_b13 : b4 ≠ b13 := Nat.ne_of_lt (Nat.lt_of_lt_of_le V8.lt gb13)
    have ge_b13 : n0 ≤ b13 := Nat.le_trans Z8 gb13
    have sz_b13 : h0.size ≤ b13 := Nat.le_trans K8.1 gb13
    have Zk13 : n0 ≤ T13.heap.size := Nat.le_trans Z8 K13.1
    have Kk13 : Keep h0 T13.heap [] := K8.trans K13 (allS (Or.inr sz_b3) all0)
    obtain ⟨T14, h14, X14, e14, E14, A14, D14, -, st14⟩ := newO X13 hx hZ hown (hw _ (List.mem_of_getElem? (i := 1) rfl)) (hw _ (List.mem_of_getElem? (i := 2) rfl)) (hw _ (List.mem_of_getElem? (i := 3) rfl)) e13 (g := (mkF m 86 #[iv p0, iv p1, iv p2, iv p3, iv (((1 : Int32) + (2 : Int32))), iv (0 : Int32), iv (0 : Int32), rv b3, .unset, .unset, .unset, .unset, .unset, .unset, .unset] [])) rfl (hb hby at_86) (by decide) (by decide)
    obtain ⟨b14, g14⟩ : ∃ z, z = T13.heap.size := ⟨_, rfl⟩
    rw [← g14] at A14 D14 st14
    have ne_b13_b14 : b13 ≠ b14 := Nat.ne_of_lt (Nat.lt_of_lt_of_le V13.lt (Nat.le_of_eq g14.symm))
    have f15 := (f9.keep K13)
    have ne_b3_b14 : b3 ≠ b14 := Nat.ne_of_lt (Nat.lt_of_lt_of_le f15.lt (Nat.le_of_eq g14.symm))
    have f16 := (V8.keep K13 (ninS (Ne.symm ne_b3_b4) nin0))
    have ne_b4_b14 : b4 ≠ b14 := Nat.ne_of_lt (Nat.lt_of_lt_of_le f16.lt (Nat.le_of_eq g14.symm))
    have ge_b14 : n0 ≤ b14 := Nat.le_trans Zk13 (Nat.le_of_eq g14.symm)
    have sz_b14 : h0.size ≤ b14 := Nat.le_trans Kk13.1 (Nat.le_of_eq g14.symm)
    have Z14 : n0 ≤ h14.size := Nat.le_trans Zk13 E14.1
    have K14 : Keep h0 h14 [] := Kk13.ext E14
    have F14_coder : Fld Z h14 b14 "java/lang/String" "coder" "B" (.int (0 : Int32)) := D14 (Or.inr (hw _ (List.mem_of_getElem? (i := 28) rfl))) (ty := .byte) (by decide)
    have F14_value : Fld Z h14 b14 "java/lang/String" "value" "[B" .null := D14 (Or.inr (hw _ (List.mem_of_getElem? (i := 30) rfl))) (ty := (.array .byte)) (by decide)
    obtain ⟨T17, h17, k17, X17, e17, E17, A17, st17⟩ := newP X14 hx hZ (hw _ (List.mem_of_getElem? (i := 4) rfl)) e14 (g := (mkF m 91 #[iv p0, iv p1, iv p2, iv p3, iv (((1 : Int32) + (2 : Int32))), iv (0 : Int32), iv (0 : Int32), rv b3, .unset, .unset, .unset, .unset, .unset, .unset, .unset] [(.int (2 : Int32)), (.ref b14), (.ref b14)])) rfl (hb hby at_91) rfl (by decide) (cap := 2) (by decide) (by decide) (by decide) (by decide)
    obtain ⟨b17, g17⟩ : ∃ z, z = h14.size := ⟨_, rfl⟩
    rw [← g17] at A17 st17
    have f18 := (V13.ext E14)
    have ne_b13_b17 : b13 ≠ b17 := Nat.ne_of_lt (Nat.lt_of_lt_of_le f18.lt (Nat.le_of_eq g17.symm))
    have ne_b14_b17 : b14 ≠ b17 := Nat.ne_of_lt (Nat.lt_of_lt_of_le A14.lt (Nat.le_of_eq g17.symm))
    have f19 := (f15.ext E14)
    have ne_b3_b17 : b3 ≠ b17 := Nat.ne_of_lt (Nat.lt_of_lt_of_le f19.lt (Nat.le_of_eq g17.symm))
    have f20 := (f16.ext E14)
    have ne_b4_b17 : b4 ≠ b17 := Nat.ne_of_lt (Nat.lt_of_lt_of_le f20.lt (Nat.le_of_eq g17.symm))
    have ge_b17 : n0 ≤ b17 := Nat.le_trans Z14 (Nat.le_of_eq g17.symm)
    have sz_b17 : h0.size ≤ b17 := Nat.le_trans K14.1 (Nat.le_of_eq g17.symm)
    have Z17 : n0 ≤ h17.size := Nat.le_trans Z14 E17.1
    have K17 : Keep h0 h17 [] := K14.ext E17
    have V17 : Arv Z h17 b17 k17 .char (2 : Int32) [(.int (0 : Int32)), (.int (0 : Int32))] (.int (0 : Int32)) := (Arv.new A17 (by decide)).pad (pad_rep [] (.int (0 : Int32)) 2)
    obtain ⟨cl21, Ar21, qk21, Sz21, Ng21, Hs21, Gs21⟩ := id V17
    have hin21 : ¬ ((0 : Int32) < 0 ∨ cl21.slots.size ≤ ((0 : Int32)).toNatClampNeg) := inb_of Sz21 ⟨by decide, by decide⟩
    obtain ⟨T22, h22, X22, e22, W22, st22⟩ := stC X17 hx hZ e17 Ar21 (j := (0 : Int32)) hin21 (g := (mkF m 101 #[iv p0, iv p1, iv p2, iv p3, iv (((1 : Int32) + (2 : Int32))), iv (0 : Int32), iv (0 : Int32), rv b3, .unset, .unset, .unset, .unset, .unset, .unset, .unset] [(.int ((p1 &&& (255 : Int32))).toUInt32.toUInt16.toUInt32.toInt32), (.int (0 : Int32)), (.ref b17), (.ref b17), (.ref b14), (.ref b14)])) rfl rfl (hb hby at_101)
    have N22 := Fr.snoc X22 N13 ge_b17
    have Z22 : n0 ≤ h22.size := Nat.le_trans Z17 (Nat.le_of_eq W22.size.symm)
    have K22 : Keep h0 h22 [] := K17.wr W22 (Or.inr sz_b17)
    have V22 : Arv Z h22 b17 k17 .char (2 : Int32) [(.int (nar .char ((p1 &&& (255 : Int32))).toUInt32.toUInt16.toUInt32.toInt32)), (.int (0 : Int32))] (.int (0 : Int32)) := Arv.set Ar21 qk21 Sz21 Ng21 Hs21 Gs21 (fits_nar_char _) W22 0 rfl (Nat.le_of_ble_eq_true rfl)
    obtain ⟨cl23, Ar23, qk23, Sz23, Ng23, Hs23, Gs23⟩ := id V22
    have hin23 : ¬ ((1 : Int32) < 0 ∨ cl23.slots.size ≤ ((1 : Int32)).toNatClampNeg) := inb_of Sz23 ⟨by decide, by decide⟩
    obtain ⟨T24, h24, X24, e24, W24, st24⟩ := stC X22 hx hZ e22 Ar23 (j := (1 : Int32)) hin23 (g := (mkF m 106 #[iv p0, iv p1, iv p2, iv p3, iv (((1 : Int32) + (2 : Int32))), iv (0 : Int32), iv (0 : Int32), rv b3, .unset, .unset, .unset, .unset, .unset, .unset, .unset] [(.int (98 : Int32)), (.int (1 : Int32)), (.ref b17), (.ref b17), (.ref b14), (.ref b14)])) rfl rfl (hb hby at_106)
    have N24 := Fr.snoc X24 N22 ge_b17
    have Z24 : n0 ≤ h24.size := Nat.le_trans Z22 (Nat.le_of_eq W24.size.symm)
    have K24 : Keep h0 h24 [] := K22.wr W24 (Or.inr sz_b17)
    have V24 : Arv Z h24 b17 k17 .char (2 : Int32) [(.int (nar .char ((p1 &&& (255 : Int32))).toUInt32.toUInt16.toUInt32.toInt32)), (.int (nar .char (98 : Int32)))] (.int (0 : Int32)) := Arv.set Ar23 qk23 Sz23 Ng23 Hs23 Gs23 (fits_nar_char _) W24 1 rfl (Nat.le_of_ble_eq_true rfl)
    have f25 := (((A14.ext E17).wr W22).wr W24)
    have f26 := (((F14_value.ext E17).other W22 (Or.inl ne_b14_b17)).other W24 (Or.inl ne_b14_b17))
    have f27 := (((F14_coder.ext E17).other W22 (Or.inl ne_b14_b17)).other W24 (Or.inl ne_b14_b17))
    have f28 := (((((own_stak f12 K13 (allS (own_exns f9) all0)).ext E14).ext E17).wr W22).wr W24)
    obtain ⟨_, T29, Lc29, X29, hQ29, st29⟩ := own_special (W := 1) (y := mN4) X24 hx hZ rfl hown (hw _ (List.mem_of_getElem? (i := 5) rfl)) (hw _ (List.mem_of_getElem? (i := 6) rfl)) (hw _ (List.mem_of_getElem? (i := 7) rfl)) (hw _ (List.mem_of_getElem? (i := 3) rfl)) (by decide) (rmSi2_2 l Z av0 hw [] b14 b17 k17 wC (nar .char ((p1 &&& (255 : Int32))).toUInt32.toUInt16.toUInt32.toInt32) (nar .char (98 : Int32)) h24 n0 Z24 f25 f26 f27 ge_b14 V24 f28 hw0 (own_ch p1) (by decide)) (by decide) (by decide) (g := (mkF m 107 #[iv p0, iv p1, iv p2, iv p3, iv (((1 : Int32) + (2 : Int32))), iv (0 : Int32), iv (0 : Int32), rv b3, .unset, .unset, .unset, .unset, .unset, .unset, .unset] [(.ref b17), (.ref b14), (.ref b14)])) rfl (by rw [hml]; rfl) (a := b14) (argsL := [(.ref b17)]) (rest := [(.ref b14)]) (lenOf pd__C_V rfl) rfl (by show 2 * 0 + _ ≤ _; exact Nat.le_of_eq rfl) (hb hby at_107) rfl e24 (by decide : 5 + 1 ≤ _) (by decide : 14 + 2 ≤ _)
    obtain ⟨rfl, N29q, K29, FC29, b29, kb29, FV29, V29, gb29⟩ := hQ29
    have N29 := Fr.app N24 N29q
    have e29 : T29.heap = T29.heap := rfl
    have f30 := (((f18.ext E17).other W22 ne_b13_b17).other W24 ne_b13_b17)
    have ne_b13_b29 : b13 ≠ b29 := Nat.ne_of_lt (Nat.lt_of_lt_of_le f30.lt gb29)
    have ne_b14_b29 : b14 ≠ b29 := Nat.ne_of_lt (Nat.lt_of_lt_of_le f25.lt gb29)
    have ne_b17_b29 : b17 ≠ b29 := Nat.ne_of_lt (Nat.lt_of_lt_of_le V24.lt gb29)
    have f31 := (((f19.ext E17).wr W22).wr W24)
    have ne_b3_b29 : b3 ≠ b29 := Nat.ne_of_lt (Nat.lt_of_lt_of_le f31.lt gb29)
    have f32 := (((f20.ext E17).other W22 ne_b4_b17).other W24 ne_b4_b17)
    have ne_b4_b29 : b4 ≠ b29 := Nat.ne_of_lt (Nat.lt_of_lt_of_le f32.lt gb29)
    have ge_b29 : n0 ≤ b29 := Nat.le_trans Z24 gb29
    have sz_b29 : h0.size ≤ b29 := Nat.le_trans K24.1 gb29
    have Zk29 : n0 ≤ T29.heap.size := Nat.le_trans Z24 K29.1
    have Kk29 : Keep h0 T29.heap [] := K24.trans K29 (allS (Or.inr sz_b14) all0)
    obtain ⟨T33, h33, X33, e33, E33, A33, D33, -, st33⟩ := newO X29 hx hZ hown (hw _ (List.mem_of_getElem? (i := 1) rfl)) (hw _ (List.mem_of_getElem? (i := 2) rfl)) (hw _ (List.mem_of_getElem? (i := 3) rfl)) e29 (g := (mkF m 112 #[iv p0, iv p1, iv p2, iv p3, iv (((1 : Int32) + (2 : Int32))), iv (0 : Int32), iv (0 : Int32), rv b3, rv b14, .unset, .unset, .unset, .unset, .unset, .unset] [])) rfl (hb hby at_112) (by decide) (by decide)
    obtain ⟨b33, g33⟩ : ∃ z, z = T29.heap.size := ⟨_, rfl⟩
    rw [← g33] at A33 D33 st33
    have f34 := (f30.keep K29 (ninS ne_b13_b14 nin0))
    have ne_b13_b33 : b13 ≠ b33 := Nat.ne_of_lt (Nat.lt_of_lt_of_le f34.lt (Nat.le_of_eq g33.symm))
    have f35 := (f25.keep K29)
    have ne_b14_b33 : b14 ≠ b33 := Nat.ne_of_lt (Nat.lt_of_lt_of_le f35.lt (Nat.le_of_eq g33.symm))
    have f36 := (V24.keep K29 (ninS (Ne.symm ne_b14_b17) nin0))
    have ne_b17_b33 : b17 ≠ b33 := Nat.ne_of_lt (Nat.lt_of_lt_of_le f36.lt (Nat.le_of_eq g33.symm))
    have ne_b29_b33 : b29 ≠ b33 := Nat.ne_of_lt (Nat.lt_of_lt_of_le V29.lt (Nat.le_of_eq g33.symm))
    have f37 := (f31.keep K29)
    have ne_b3_b33 : b3 ≠ b33 := Nat.ne_of_lt (Nat.lt_of_lt_of_le f37.lt (Nat.le_of_eq g33.symm))
    have f38 := (f32.keep K29 (ninS ne_b4_b14 nin0))
    have ne_b4_b33 : b4 ≠ b33 := Nat.ne_of_lt (Nat.lt_of_lt_of_le f38.lt (Nat.le_of_eq g33.symm))
    have ge_b33 : n0 ≤ b33 := Nat.le_trans Zk29 (Nat.le_of_eq g33.symm)
    have sz_b33 : h0.size ≤ b33 := Nat.le_trans Kk29.1 (Nat.le_of_eq g33.symm)
    have Z33 : n0 ≤ h33.size := Nat.le_trans Zk29 E33.1
    have K33 : Keep h0 h33 [] := Kk29.ext E33
    have F33_coder : Fld Z h33 b33 "java/lang/String" "coder" "B" (.int (0 : Int32)) := D33 (Or.inr (hw _ (List.mem_of_getElem? (i := 28) rfl))) (ty := .byte) (by decide)
    have F33_value : Fld Z h33 b33 "java/lang/String" "value" "[B" .null := D33 (Or.inr (hw _ (List.mem_of_getElem? (i := 30) rfl))) (ty := (.array .byte)) (by decide)
    obtain ⟨T39, h39, k39, X39, e39, E39, A39, st39⟩ := newP X33 hx hZ (hw _ (List.mem_of_getElem? (i := 4) rfl)) e33 (g := (mkF m 117 #[iv p0, iv p1, iv p2, iv p3, iv (((1 : Int32) + (2 : Int32))), iv (0 : Int32), iv (0 : Int32), rv b3, rv b14, .unset, .unset, .unset, .unset, .unset, .unset] [(.int (2 : Int32)), (.ref b33), (.ref b33)])) rfl (hb hby at_117) rfl (by decide) (cap := 2) (by decide) (by decide) (by decide) (by decide)
    obtain ⟨b39, g39⟩ : ∃ z, z = h33.size := ⟨_, rfl⟩
    rw [← g39] at A39 st39
    have f40 := (f34.ext E33)
    have ne_b13_b39 : b13 ≠ b39 := Nat.ne_of_lt (Nat.lt_of_lt_of_le f40.lt (Nat.le_of_eq g39.symm))
    have f41 := (f35.ext E33)
    have ne_b14_b39 : b14 ≠ b39 := Nat.ne_of_lt (Nat.lt_of_lt_of_le f41.lt (Nat.le_of_eq g39.symm))
    have f42 := (f36.ext E33)
    have ne_b17_b39 : b17 ≠ b39 := Nat.ne_of_lt (Nat.lt_of_lt_of_le f42.lt (Nat.le_of_eq g39.symm))
    have f43 := (V29.ext E33)
    have ne_b29_b39 : b29 ≠ b39 := Nat.ne_of_lt (Nat.lt_of_lt_of_le f43.lt (Nat.le_of_eq g39.symm))
    have f44 := (f37.ext E33)
    have ne_b3_b39 : b3 ≠ b39 := Nat.ne_of_lt (Nat.lt_of_lt_of_le f44.lt (Nat.le_of_eq g39.symm))
    have ne_b33_b39 : b33 ≠ b39 := Nat.ne_of_lt (Nat.lt_of_lt_of_le A33.lt (Nat.le_of_eq g39.symm))
    have f45 := (f38.ext E33)
    have ne_b4_b39 : b4 ≠ b39 := Nat.ne_of_lt (Nat.lt_of_lt_of_le f45.lt (Nat.le_of_eq g39.symm))
    have ge_b39 : n0 ≤ b39 := Nat.le_trans Z33 (Nat.le_of_eq g39.symm)
    have sz_b39 : h0.size ≤ b39 := Nat.le_trans K33.1 (Nat.le_of_eq g39.symm)
    have Z39 : n0 ≤ h39.size := Nat.le_trans Z33 E39.1
    have K39 : Keep h0 h39 [] := K33.ext E39
    have V39 : Arv Z h39 b39 k39 .char (2 : Int32) [(.int (0 : Int32)), (.int (0 : Int32))] (.int (0 : Int32)) := (Arv.new A39 (by decide)).pad (pad_rep [] (.int (0 : Int32)) 2)
    obtain ⟨cl46, Ar46, qk46, Sz46, Ng46, Hs46, Gs46⟩ := id V39
    have hin46 : ¬ ((0 : Int32) < 0 ∨ cl46.slots.size ≤ ((0 : Int32)).toNatClampNeg) := inb_of Sz46 ⟨by decide, by decide⟩
    obtain ⟨T47, h47, X47, e47, W47, st47⟩ := stC X39 hx hZ e39 Ar46 (j := (0 : Int32)) hin46 (g := (mkF m 127 #[iv p0, iv p1, iv p2, iv p3, iv (((1 : Int32) + (2 : Int32))), iv (0 : Int32), iv (0 : Int32), rv b3, rv b14, .unset, .unset, .unset, .unset, .unset, .unset] [(.int ((p2 &&& (255 : Int32))).toUInt32.toUInt16.toUInt32.toInt32), (.int (0 : Int32)), (.ref b39), (.ref b39), (.ref b33), (.ref b33)])) rfl rfl (hb hby at_127)
    have N47 := Fr.snoc X47 N29 ge_b39
    have Z47 : n0 ≤ h47.size := Nat.le_trans Z39 (Nat.le_of_eq W47.size.symm)
    have K47 : Keep h0 h47 [] := K39.wr W47 (Or.inr sz_b39)
    have V47 : Arv Z h47 b39 k39 .char (2 : Int32) [(.int (nar .char ((p2 &&& (255 : Int32))).toUInt32.toUInt16.toUInt32.toInt32)), (.int (0 : Int32))] (.int (0 : Int32)) := Arv.set Ar46 qk46 Sz46 Ng46 Hs46 Gs46 (fits_nar_char _) W47 0 rfl (Nat.le_of_ble_eq_true rfl)
    obtain ⟨cl48, Ar48, qk48, Sz48, Ng48, Hs48, Gs48⟩ := id V47
    have hin48 : ¬ ((1 : Int32) < 0 ∨ cl48.slots.size ≤ ((1 : Int32)).toNatClampNeg) := inb_of Sz48 ⟨by decide, by decide⟩
    obtain ⟨T49, h49, X49, e49, W49, st49⟩ := stC X47 hx hZ e47 Ar48 (j := (1 : Int32)) hin48 (g := (mkF m 132 #[iv p0, iv p1, iv p2, iv p3, iv (((1 : Int32) + (2 : Int32))), iv (0 : Int32), iv (0 : Int32), rv b3, rv b14, .unset, .unset, .unset, .unset, .unset, .unset] [(.int (99 : Int32)), (.int (1 : Int32)), (.ref b39), (.ref b39), (.ref b33), (.ref b33)])) rfl rfl (hb hby at_132)
    have N49 := Fr.snoc X49 N47 ge_b39
    have Z49 : n0 ≤ h49.size := Nat.le_trans Z47 (Nat.le_of_eq W49.size.symm)
    have K49 : Keep h0 h49 [] := K47.wr W49 (Or.inr sz_b39)
    have V49 : Arv Z h49 b39 k39 .char (2 : Int32) [(.int (nar .char ((p2 &&& (255 : Int32))).toUInt32.toUInt16.toUInt32.toInt32)), (.int (nar .char (99 : Int32)))] (.int (0 : Int32)) := Arv.set Ar48 qk48 Sz48 Ng48 Hs48 Gs48 (fits_nar_char _) W49 1 rfl (Nat.le_of_ble_eq_true rfl)
    have f50 := (((A33.ext E39).wr W47).wr W49)
    have f51 := (((F33_value.ext E39).other W47 (Or.inl ne_b33_b39)).other W49 (Or.inl ne_b33_b39))
    have f52 := (((F33_coder.ext E39).other W47 (Or.inl ne_b33_b39)).other W49 (Or.inl ne_b33_b39))
    have f53 := (((((own_stak f28 K29 (allS (own_exns f25) all0)).ext E33).ext E39).wr W47).wr W49)
    obtain ⟨_, T54, Lc54, X54, hQ54, st54⟩ := own_special (W := 1) (y := mN4) X49 hx hZ rfl hown (hw _ (List.mem_of_getElem? (i := 5) rfl)) (hw _ (List.mem_of_getElem? (i := 6) rfl)) (hw _ (List.mem_of_getElem? (i := 7) rfl)) (hw _ (List.mem_of_getElem? (i := 3) rfl)) (by decide) (rmSi2_2 l Z av0 hw [] b33 b39 k39 wC (nar .char ((p2 &&& (255 : Int32))).toUInt32.toUInt16.toUInt32.toInt32) (nar .char (99 : Int32)) h49 n0 Z49 f50 f51 f52 ge_b33 V49 f53 hw0 (own_ch p2) (by decide)) (by decide) (by decide) (g := (mkF m 133 #[iv p0, iv p1, iv p2, iv p3, iv (((1 : Int32) + (2 : Int32))), iv (0 : Int32), iv (0 : Int32), rv b3, rv b14, .unset, .unset, .unset, .unset, .unset, .unset] [(.ref b39), (.ref b33), (.ref b33)])) rfl (by rw [hml]; rfl) (a := b33) (argsL := [(.ref b39)]) (rest := [(.ref b33)]) (lenOf pd__C_V rfl) rfl (by show 2 * 0 + _ ≤ _; exact Nat.le_of_eq rfl) (hb hby at_133) rfl e49 (by decide : 8 + 1 ≤ _) (by decide : 22 + 2 ≤ _)
    obtain ⟨rfl, N54q, K54, FC54, b54, kb54, FV54, V54, gb54⟩ := hQ54
    have N54 := Fr.app N49 N54q
    have e54 : T54.heap = T54.heap := rfl
    have f55 := (((f40.ext E39).other W47 ne_b13_b39).other W49 ne_b13_b39)
    have ne_b13_b54 : b13 ≠ b54 := Nat.ne_of_lt (Nat.lt_of_lt_of_le f55.lt gb54)
    have f56 := (((f41.ext E39).wr W47).wr W49)
    have ne_b14_b54 : b14 ≠ b54 := Nat.ne_of_lt (Nat.lt_of_lt_of_le f56.lt gb54)
    have f57 := (((f42.ext E39).other W47 ne_b17_b39).other W49 ne_b17_b39)
    have ne_b17_b54 : b17 ≠ b54 := Nat.ne_of_lt (Nat.lt_of_lt_of_le f57.lt gb54)
    have f58 := (((f43.ext E39).other W47 ne_b29_b39).other W49 ne_b29_b39)
    have ne_b29_b54 : b29 ≠ b54 := Nat.ne_of_lt (Nat.lt_of_lt_of_le f58.lt gb54)
    have f59 := (((f44.ext E39).wr W47).wr W49)
    have ne_b3_b54 : b3 ≠ b54 := Nat.ne_of_lt (Nat.lt_of_lt_of_le f59.lt gb54)
    have ne_b33_b54 : b33 ≠ b54 := Nat.ne_of_lt (Nat.lt_of_lt_of_le f50.lt gb54)
    have ne_b39_b54 : b39 ≠ b54 := Nat.ne_of_lt (Nat.lt_of_lt_of_le V49.lt gb54)
    have f60 := (((f45.ext E39).other W47 ne_b4_b39).other W49 ne_b4_b39)
    have ne_b4_b54 : b4 ≠ b54 := Nat.ne_of_lt (Nat.lt_of_lt_of_le f60.lt gb54)
    have ge_b54 : n0 ≤ b54 := Nat.le_trans Z49 gb54
    have sz_b54 : h0.size ≤ b54 := Nat.le_trans K49.1 gb54
    have Zk54 : n0 ≤ T54.heap.size := Nat.le_trans Z49 K54.1
    have Kk54 : Keep h0 T54.heap [] := K49.trans K54 (allS (Or.inr sz_b33) all0)
    obtain ⟨T61, h61, k61, X61, e61, E61, A61, O61, st61⟩ := newR X54 hx hZ hown (hw _ (List.mem_of_getElem? (i := 1) rfl)) (hw _ (List.mem_of_getElem? (i := 31) rfl)) e54 (g := (mkF m 140 #[iv p0, iv p1, iv p2, iv p3, iv (((1 : Int32) + (2 : Int32))), iv (0 : Int32), iv (0 : Int32), rv b3, rv b14, rv b33, .unset, .unset, .unset, .unset, .unset] [(.int ((1 : Int32) + (2 : Int32)))])) rfl (hb hby at_140) rfl (by decide) (cap := 3) (by decide) (by decide) (by decide) (by decide)
    obtain ⟨b61, g61⟩ : ∃ z, z = T54.heap.size := ⟨_, rfl⟩
    rw [← g61] at A61 st61
    have f62 := (f55.keep K54 (ninS ne_b13_b33 nin0))
    have ne_b13_b61 : b13 ≠ b61 := Nat.ne_of_lt (Nat.lt_of_lt_of_le f62.lt (Nat.le_of_eq g61.symm))
    have f63 := (f56.keep K54)
    have ne_b14_b61 : b14 ≠ b61 := Nat.ne_of_lt (Nat.lt_of_lt_of_le f63.lt (Nat.le_of_eq g61.symm))
    have f64 := (f57.keep K54 (ninS ne_b17_b33 nin0))
    have ne_b17_b61 : b17 ≠ b61 := Nat.ne_of_lt (Nat.lt_of_lt_of_le f64.lt (Nat.le_of_eq g61.symm))
    have f65 := (f58.keep K54 (ninS ne_b29_b33 nin0))
    have ne_b29_b61 : b29 ≠ b61 := Nat.ne_of_lt (Nat.lt_of_lt_of_le f65.lt (Nat.le_of_eq g61.symm))
    have f66 := (f59.keep K54)
    have ne_b3_b61 : b3 ≠ b61 := Nat.ne_of_lt (Nat.lt_of_lt_of_le f66.lt (Nat.le_of_eq g61.symm))
    have f67 := (f50.keep K54)
    have ne_b33_b61 : b33 ≠ b61 := Nat.ne_of_lt (Nat.lt_of_lt_of_le f67.lt (Nat.le_of_eq g61.symm))
    have f68 := (V49.keep K54 (ninS (Ne.symm ne_b33_b39) nin0))
    have ne_b39_b61 : b39 ≠ b61 := Nat.ne_of_lt (Nat.lt_of_lt_of_le f68.lt (Nat.le_of_eq g61.symm))
    have f69 := (f60.keep K54 (ninS ne_b4_b33 nin0))
    have ne_b4_b61 : b4 ≠ b61 := Nat.ne_of_lt (Nat.lt_of_lt_of_le f69.lt (Nat.le_of_eq g61.symm))
    have ne_b54_b61 : b54 ≠ b61 := Nat.ne_of_lt (Nat.lt_of_lt_of_le V54.lt (Nat.le_of_eq g61.symm))
    have ge_b61 : n0 ≤ b61 := Nat.le_trans Zk54 (Nat.le_of_eq g61.symm)
    have sz_b61 : h0.size ≤ b61 := Nat.le_trans Kk54.1 (Nat.le_of_eq g61.symm)
    have Z61 : n0 ≤ h61.size := Nat.le_trans Zk54 E61.1
    have K61 : Keep h0 h61 [] := Kk54.ext E61
    have V61 : Arv Z h61 b61 k61 (.object "java/lang/String") ((1 : Int32) + (2 : Int32)) [.null, .null, .null] .null := (Arv.new A61 (by decide)).pad (pad_rep [] .null 3)
    obtain ⟨cl70, Ar70, qk70, Sz70, Ng70, Hs70, Gs70⟩ := id V61
    have hin70 : ¬ ((0 : Int32) < 0 ∨ cl70.slots.size ≤ ((0 : Int32)).toNatClampNeg) := inb_of Sz70 ⟨by decide, by decide⟩
    have f71 := (f66.ext E61)
    obtain ⟨T72, h72, X72, e72, W72, st72⟩ := stR X61 hx hZ e61 Ar70 (j := (0 : Int32)) hin70 rfl (Sto.ofV Ar70 qk70 O61 (Ins.self f71)) (g := (mkF m 150 #[iv p0, iv p1, iv p2, iv p3, iv (((1 : Int32) + (2 : Int32))), iv (0 : Int32), iv (0 : Int32), rv b3, rv b14, rv b33, rv b61, .unset, .unset, .unset, .unset] [(.ref b3), (.int (0 : Int32)), (.ref b61)])) rfl rfl (hb hby at_150)
    have N72 := Fr.snoc X72 N54 ge_b61
    have Z72 : n0 ≤ h72.size := Nat.le_trans Z61 (Nat.le_of_eq W72.size.symm)
    have K72 : Keep h0 h72 [] := K61.wr W72 (Or.inr sz_b61)
    have V72 : Arv Z h72 b61 k61 (.object "java/lang/String") ((1 : Int32) + (2 : Int32)) [(.ref b3), .null, .null] .null := Arv.set Ar70 qk70 Sz70 Ng70 Hs70 Gs70 rfl W72 0 rfl (Nat.le_of_ble_eq_true rfl)
    obtain ⟨cl73, Ar73, qk73, Sz73, Ng73, Hs73, Gs73⟩ := id V72
    have hin73 : ¬ ((1 : Int32) < 0 ∨ cl73.slots.size ≤ ((1 : Int32)).toNatClampNeg) := inb_of Sz73 ⟨by decide, by decide⟩
    have f74 := ((f63.ext E61).wr W72)
    obtain ⟨T75, h75, X75, e75, W75, st75⟩ := stR X72 hx hZ e72 Ar73 (j := (1 : Int32)) hin73 rfl (Sto.ofV Ar73 qk73 O61 (Ins.self f74)) (g := (mkF m 162 #[iv p0, iv p1, iv p2, iv p3, iv (((1 : Int32) + (2 : Int32))), iv (0 : Int32), iv (0 : Int32), rv b3, rv b14, rv b33, rv b61, .unset, .unset, .unset, .unset] [(.ref b14), (.int (1 : Int32)), (.ref b61)])) rfl rfl (hb hby at_162)
    have N75 := Fr.snoc X75 N72 ge_b61
    have Z75 : n0 ≤ h75.size := Nat.le_trans Z72 (Nat.le_of_eq W75.size.symm)
    have K75 : Keep h0 h75 [] := K72.wr W75 (Or.inr sz_b61)
    have V75 : Arv Z h75 b61 k61 (.object "java/lang/String") ((1 : Int32) + (2 : Int32)) [(.ref b3), (.ref b14), .null] .null := Arv.set Ar73 qk73 Sz73 Ng73 Hs73 Gs73 rfl W75 1 rfl (Nat.le_of_ble_eq_true rfl)
    obtain ⟨cl76, Ar76, qk76, Sz76, Ng76, Hs76, Gs76⟩ := id V75
    have hin76 : ¬ ((2 : Int32) < 0 ∨ cl76.slots.size ≤ ((2 : Int32)).toNatClampNeg) := inb_of Sz76 ⟨by decide, by decide⟩
    have f77 := (((f67.ext E61).wr W72).wr W75)
    obtain ⟨T78, h78, X78, e78, W78, st78⟩ := stR X75 hx hZ e75 Ar76 (j := (2 : Int32)) hin76 rfl (Sto.ofV Ar76 qk76 O61 (Ins.self f77)) (g := (mkF m 174 #[iv p0, iv p1, iv p2, iv p3, iv (((1 : Int32) + (2 : Int32))), iv (0 : Int32), iv (0 : Int32), rv b3, rv b14, rv b33, rv b61, .unset, .unset, .unset, .unset] [(.ref b33), (.int (2 : Int32)), (.ref b61)])) rfl rfl (hb hby at_174)
    have N78 := Fr.snoc X78 N75 ge_b61
    have Z78 : n0 ≤ h78.size := Nat.le_trans Z75 (Nat.le_of_eq W78.size.symm)
    have K78 : Keep h0 h78 [] := K75.wr W78 (Or.inr sz_b61)
    have V78 : Arv Z h78 b61 k61 (.object "java/lang/String") ((1 : Int32) + (2 : Int32)) [(.ref b3), (.ref b14), (.ref b33)] .null := Arv.set Ar76 qk76 Sz76 Ng76 Hs76 Gs76 rfl W78 2 rfl (Nat.le_of_ble_eq_true rfl)
    obtain ⟨T79, h79, X79, e79, E79, A79, D79, -, st79⟩ := newO X78 hx hZ hown (hw _ (List.mem_of_getElem? (i := 32) rfl)) (hw _ (List.mem_of_getElem? (i := 33) rfl)) (hw _ (List.mem_of_getElem? (i := 34) rfl)) e78 (g := (mkF m 175 #[iv p0, iv p1, iv p2, iv p3, iv (((1 : Int32) + (2 : Int32))), iv (0 : Int32), iv (0 : Int32), rv b3, rv b14, rv b33, rv b61, .unset, .unset, .unset, .unset] [])) rfl (hb hby at_175) (by decide) (by decide)
    obtain ⟨b79, g79⟩ : ∃ z, z = h78.size := ⟨_, rfl⟩
    rw [← g79] at A79 D79 st79
    have f80 := ((((f62.ext E61).other W72 ne_b13_b61).other W75 ne_b13_b61).other W78 ne_b13_b61)
    have ne_b13_b79 : b13 ≠ b79 := Nat.ne_of_lt (Nat.lt_of_lt_of_le f80.lt (Nat.le_of_eq g79.symm))
    have f81 := ((f74.wr W75).wr W78)
    have ne_b14_b79 : b14 ≠ b79 := Nat.ne_of_lt (Nat.lt_of_lt_of_le f81.lt (Nat.le_of_eq g79.symm))
    have f82 := ((((f64.ext E61).other W72 ne_b17_b61).other W75 ne_b17_b61).other W78 ne_b17_b61)
    have ne_b17_b79 : b17 ≠ b79 := Nat.ne_of_lt (Nat.lt_of_lt_of_le f82.lt (Nat.le_of_eq g79.symm))
    have f83 := ((((f65.ext E61).other W72 ne_b29_b61).other W75 ne_b29_b61).other W78 ne_b29_b61)
    have ne_b29_b79 : b29 ≠ b79 := Nat.ne_of_lt (Nat.lt_of_lt_of_le f83.lt (Nat.le_of_eq g79.symm))
    have f84 := (((f71.wr W72).wr W75).wr W78)
    have ne_b3_b79 : b3 ≠ b79 := Nat.ne_of_lt (Nat.lt_of_lt_of_le f84.lt (Nat.le_of_eq g79.symm))
    have f85 := (f77.wr W78)
    have ne_b33_b79 : b33 ≠ b79 := Nat.ne_of_lt (Nat.lt_of_lt_of_le f85.lt (Nat.le_of_eq g79.symm))
    have f86 := ((((f68.ext E61).other W72 ne_b39_b61).other W75 ne_b39_b61).other W78 ne_b39_b61)
    have ne_b39_b79 : b39 ≠ b79 := Nat.ne_of_lt (Nat.lt_of_lt_of_le f86.lt (Nat.le_of_eq g79.symm))
    have f87 := ((((f69.ext E61).other W72 ne_b4_b61).other W75 ne_b4_b61).other W78 ne_b4_b61)
    have ne_b4_b79 : b4 ≠ b79 := Nat.ne_of_lt (Nat.lt_of_lt_of_le f87.lt (Nat.le_of_eq g79.symm))
    have f88 := ((((V54.ext E61).other W72 ne_b54_b61).other W75 ne_b54_b61).other W78 ne_b54_b61)
    have ne_b54_b79 : b54 ≠ b79 := Nat.ne_of_lt (Nat.lt_of_lt_of_le f88.lt (Nat.le_of_eq g79.symm))
    have ne_b61_b79 : b61 ≠ b79 := Nat.ne_of_lt (Nat.lt_of_lt_of_le V78.lt (Nat.le_of_eq g79.symm))
    have ge_b79 : n0 ≤ b79 := Nat.le_trans Z78 (Nat.le_of_eq g79.symm)
    have sz_b79 : h0.size ≤ b79 := Nat.le_trans K78.1 (Nat.le_of_eq g79.symm)
    have Z79 : n0 ≤ h79.size := Nat.le_trans Z78 E79.1
    have K79 : Keep h0 h79 [] := K78.ext E79
    have F79_arguments : Fld Z h79 b79 "com/example/steady_courier/steadycourier/OptionReader" "arguments" "[Ljava/lang/String;" .null := D79 (Or.inr (hw _ (List.mem_of_getElem? (i := 40) rfl))) (ty := (.array (.object "java/lang/String"))) (by decide)
    have F79_next : Fld Z h79 b79 "com/example/steady_courier/steadycourier/OptionReader" "next" "I" (.int (0 : Int32)) := D79 (Or.inl (hw _ (List.mem_of_getElem? (i := 47) rfl))) (ty := .int) (by decide)
    obtain ⟨_, T89, Lc89, X89, hQ89, st89⟩ := own_special (W := 1) (y := mN5) X79 hx hZ rfl hown (hw _ (List.mem_of_getElem? (i := 35) rfl)) (hw _ (List.mem_of_getElem? (i := 36) rfl)) (hw _ (List.mem_of_getElem? (i := 37) rfl)) (hw _ (List.mem_of_getElem? (i := 34) rfl)) (by decide) (rmInit l Z av0 hw [] b79 b61 h79 n0 Z79 A79 F79_arguments F79_next ge_b79) (by decide) (by decide) (g := (mkF m 181 #[iv p0, iv p1, iv p2, iv p3, iv (((1 : Int32) + (2 : Int32))), iv (0 : Int32), iv (0 : Int32), rv b3, rv b14, rv b33, rv b61, .unset, .unset, .unset, .unset] [(.ref b61), (.ref b79), (.ref b79)])) rfl (by rw [hml]; rfl) (a := b79) (argsL := [(.ref b61)]) (rest := [(.ref b79)]) (lenOf pd__Ljava_lang_String_V rfl) rfl (by show 2 * 0 + _ ≤ _; exact Nat.le_of_eq rfl) (hb hby at_181) rfl e79 (by decide : 11 + 0 ≤ _) (by decide : 29 + 0 ≤ _)
    obtain ⟨rfl, N89q, K89, FA89, FN89⟩ := hQ89
    have N89 := Fr.app N78 N89q
    have e89 : T89.heap = T89.heap := rfl
    have Zk89 : n0 ≤ T89.heap.size := Nat.le_trans Z79 K89.1
    have Kk89 : Keep h0 T89.heap [] := K79.trans K89 (allS (Or.inr sz_b79) all0)
    have f90 := ((V78.ext E79).keep K89 (ninS ne_b61_b79 nin0))
    have f92 := (A79.keep K89)
    obtain ⟨_, T91, Lc91, X91, hQ91, st91⟩ := own_virtual (W := 0) (y := mN6) (z := mN6) X89 hx hZ hown (hw _ (List.mem_of_getElem? (i := 41) rfl)) (hw _ (List.mem_of_getElem? (i := 42) rfl)) (notFace_of_selects (args := #[]) (mvT hZ (hw _ (List.mem_of_getElem? (i := 44) rfl)))) (hw _ (List.mem_of_getElem? (i := 44) rfl)) (hw _ (List.mem_of_getElem? (i := 43) rfl)) (hw _ (List.mem_of_getElem? (i := 45) rfl)) (hw _ (List.mem_of_getElem? (i := 34) rfl)) (by decide) (rmHas l Z av0 hw [] b79 b61 k61 ((1 : Int32) + (2 : Int32)) [(.ref b3), (.ref b14), (.ref b33)] (0 : Int32) T89.heap n0 Zk89 FA89 FN89 f90) (by decide) (by decide) f92 (g := (mkF m 188 #[iv p0, iv p1, iv p2, iv p3, iv (((1 : Int32) + (2 : Int32))), iv (0 : Int32), iv (0 : Int32), rv b3, rv b14, rv b33, rv b61, rv b79, .unset, .unset, .unset] [(.ref b79)])) rfl (by rw [hml]; rfl) (argsL := []) (rest := []) (lenOf pd__Z rfl) rfl (by show 2 * 0 + _ ≤ _; exact Nat.le_of_eq rfl) (hb hby at_188) rfl e89 (by decide : 11 + 0 ≤ _) (by decide : 29 + 0 ≤ _)
    obtain ⟨rfl, N91q, hh91⟩ := hQ91
    have N91 := Fr.app N89 N91q
    have e91 : T91.heap = T89.heap := hh91
    obtain ⟨_, T93, Lc93, X93, hQ93, st93⟩ := own_virtual (W := 0) (y := mN7) (z := mN7) X91 hx hZ hown (hw _ (List.mem_of_getElem? (i := 48) rfl)) (hw _ (List.mem_of_getElem? (i := 49) rfl)) (notFace_of_selects (args := #[]) (mvT hZ (hw _ (List.mem_of_getElem? (i := 51) rfl)))) (hw _ (List.mem_of_getElem? (i := 51) rfl)) (hw _ (List.mem_of_getElem? (i := 50) rfl)) (hw _ (List.mem_of_getElem? (i := 52) rfl)) (hw _ (List.mem_of_getElem? (i := 34) rfl)) (by decide) (rmOpt l Z av0 hw [] b79 b61 k61 ((1 : Int32) + (2 : Int32)) [(.ref b3), (.ref b14), (.ref b33)] (0 : Int32) b3 T89.heap n0 Zk89 FA89 FN89 f90 f92 ge_b79 (Ne.symm ne_b61_b79) (by decide) rfl) (by decide) (by decide) f92 (g := (mkF m 198 #[iv p0, iv p1, iv p2, iv p3, iv (((1 : Int32) + (2 : Int32))), iv (0 : Int32), iv (0 : Int32), rv b3, rv b14, rv b33, rv b61, rv b79, .unset, .unset, .unset] [(.ref b79)])) rfl (by rw [hml]; rfl) (argsL := []) (rest := []) (lenOf pd__Ljava_lang_String_ rfl) rfl (by show 2 * 0 + _ ≤ _; exact Nat.le_of_eq rfl) (hb hby at_198) rfl e91 (by decide : 11 + 0 ≤ _) (by decide : 29 + 0 ≤ _)
    obtain ⟨rfl, N93q, K93, FN93, FA93⟩ := hQ93
    have N93 := Fr.app N91 N93q
    have e93 : T93.heap = T93.heap := rfl
    have Zk93 : n0 ≤ T93.heap.size := Nat.le_trans Zk89 K93.1
    have Kk93 : Keep h0 T93.heap [] := Kk89.trans K93 (allS (Or.inr sz_b79) all0)
    have f95 := (((f84.ext E79).keep K89).keep K93)
    obtain ⟨_, T94, Lc94, X94, hQ94, st94⟩ := own_virtual (W := 0) (y := mN9) (z := mN9) X93 hx hZ hown (hw _ (List.mem_of_getElem? (i := 53) rfl)) (hw _ (List.mem_of_getElem? (i := 54) rfl)) (notFace_of_selects (args := #[]) (mvT hZ (hw _ (List.mem_of_getElem? (i := 56) rfl)))) (hw _ (List.mem_of_getElem? (i := 56) rfl)) (hw _ (List.mem_of_getElem? (i := 55) rfl)) (hw _ (List.mem_of_getElem? (i := 57) rfl)) (hw _ (List.mem_of_getElem? (i := 3) rfl)) (by decide) (rmSame l Z av0 hw [] b3 T93.heap n0 Zk93 ) (by decide) (by decide) f95 (g := (mkF m 207 #[iv p0, iv p1, iv p2, iv p3, iv (((1 : Int32) + (2 : Int32))), iv (0 : Int32), iv (0 : Int32), rv b3, rv b14, rv b33, rv b61, rv b79, rv b3, .unset, .unset] [(.ref b3), (.ref b3)])) rfl (by rw [hml]; rfl) (argsL := [(.ref b3)]) (rest := []) (lenOf pd__Ljava_lang_Object_Z rfl) rfl (by show 2 * 0 + _ ≤ _; exact Nat.le_of_eq rfl) (hb hby at_207) rfl e93 (by decide : 11 + 0 ≤ _) (by decide : 29 + 0 ≤ _)
    obtain ⟨rfl, N94q, hh94⟩ := hQ94
    have N94 := Fr.app N93 N94q
    have e94 : T94.heap = T93.heap := hh94
    have f96 := (f90.keep K93 (ninS ne_b61_b79 nin0))
    have f98 := (f92.keep K93)
    obtain ⟨_, T97, Lc97, X97, hQ97, st97⟩ := own_virtual (W := 0) (y := mN6) (z := mN6) X94 hx hZ hown (hw _ (List.mem_of_getElem? (i := 41) rfl)) (hw _ (List.mem_of_getElem? (i := 42) rfl)) (notFace_of_selects (args := #[]) (mvT hZ (hw _ (List.mem_of_getElem? (i := 44) rfl)))) (hw _ (List.mem_of_getElem? (i := 44) rfl)) (hw _ (List.mem_of_getElem? (i := 43) rfl)) (hw _ (List.mem_of_getElem? (i := 45) rfl)) (hw _ (List.mem_of_getElem? (i := 34) rfl)) (by decide) (rmHas l Z av0 hw [] b79 b61 k61 ((1 : Int32) + (2 : Int32)) [(.ref b3), (.ref b14), (.ref b33)] ((0 : Int32) + (1 : Int32)) T93.heap n0 Zk93 FA93 FN93 f96) (by decide) (by decide) f98 (g := (mkF m 217 #[iv p0, iv p1, iv p2, iv p3, iv (((1 : Int32) + (2 : Int32))), iv (0 : Int32), iv (0 : Int32), rv b3, rv b14, rv b33, rv b61, rv b79, rv b3, .unset, .unset] [(.ref b79)])) rfl (by rw [hml]; rfl) (argsL := []) (rest := []) (lenOf pd__Z rfl) rfl (by show 2 * 0 + _ ≤ _; exact Nat.le_of_eq rfl) (hb hby at_217) rfl e94 (by decide : 11 + 0 ≤ _) (by decide : 29 + 0 ≤ _)
    obtain ⟨rfl, N97q, hh97⟩ := hQ97
    have N97 := Fr.app N94 N97q
    have e97 : T97.heap = T93.heap := hh97
    obtain ⟨_, T99, Lc99, X99, hQ99, st99⟩ := own_virtual (W := 0) (y := mN7) (z := mN7) X97 hx hZ hown (hw _ (List.mem_of_getElem? (i := 48) rfl)) (hw _ (List.mem_of_getElem? (i := 49) rfl)) (notFace_of_selects (args := #[]) (mvT hZ (hw _ (List.mem_of_getElem? (i := 51) rfl)))) (hw _ (List.mem_of_getElem? (i := 51) rfl)) (hw _ (List.mem_of_getElem? (i := 50) rfl)) (hw _ (List.mem_of_getElem? (i := 52) rfl)) (hw _ (List.mem_of_getElem? (i := 34) rfl)) (by decide) (rmOpt l Z av0 hw [] b79 b61 k61 ((1 : Int32) + (2 : Int32)) [(.ref b3), (.ref b14), (.ref b33)] ((0 : Int32) + (1 : Int32)) b14 T93.heap n0 Zk93 FA93 FN93 f96 f98 ge_b79 (Ne.symm ne_b61_b79) (by decide) rfl) (by decide) (by decide) f98 (g := (mkF m 261 #[iv p0, iv p1, iv p2, iv p3, iv (((1 : Int32) + (2 : Int32))), iv (0 : Int32), iv (0 : Int32), rv b3, rv b14, rv b33, rv b61, rv b79, rv b3, .unset, .unset] [(.ref b79)])) rfl (by rw [hml]; rfl) (argsL := []) (rest := []) (lenOf pd__Ljava_lang_String_ rfl) rfl (by show 2 * 0 + _ ≤ _; exact Nat.le_of_eq rfl) (hb hby at_261) rfl e97 (by decide : 11 + 0 ≤ _) (by decide : 29 + 0 ≤ _)
    obtain ⟨rfl, N99q, K99, FN99, FA99⟩ := hQ99
    have N99 := Fr.app N97 N99q
    have e99 : T99.heap = T99.heap := rfl
    have Zk99 : n0 ≤ T99.heap.size := Nat.le_trans Zk93 K99.1
    have Kk99 : Keep h0 T99.heap [] := Kk93.trans K99 (allS (Or.inr sz_b79) all0)
    have f101 := ((((f81.ext E79).keep K89).keep K93).keep K99)
    obtain ⟨_, T100, Lc100, X100, hQ100, st100⟩ := own_virtual (W := 0) (y := mN9) (z := mN9) X99 hx hZ hown (hw _ (List.mem_of_getElem? (i := 53) rfl)) (hw _ (List.mem_of_getElem? (i := 54) rfl)) (notFace_of_selects (args := #[]) (mvT hZ (hw _ (List.mem_of_getElem? (i := 56) rfl)))) (hw _ (List.mem_of_getElem? (i := 56) rfl)) (hw _ (List.mem_of_getElem? (i := 55) rfl)) (hw _ (List.mem_of_getElem? (i := 57) rfl)) (hw _ (List.mem_of_getElem? (i := 3) rfl)) (by decide) (rmSame l Z av0 hw [] b14 T99.heap n0 Zk99 ) (by decide) (by decide) f101 (g := (mkF m 270 #[iv p0, iv p1, iv p2, iv p3, iv (((1 : Int32) + (2 : Int32))), iv (0 : Int32), iv (0 : Int32), rv b3, rv b14, rv b33, rv b61, rv b79, rv b3, rv b14, .unset] [(.ref b14), (.ref b14)])) rfl (by rw [hml]; rfl) (argsL := [(.ref b14)]) (rest := []) (lenOf pd__Ljava_lang_Object_Z rfl) rfl (by show 2 * 0 + _ ≤ _; exact Nat.le_of_eq rfl) (hb hby at_270) rfl e99 (by decide : 11 + 0 ≤ _) (by decide : 29 + 0 ≤ _)
    obtain ⟨rfl, N100q, hh100⟩ := hQ100
    have N100 := Fr.app N99 N100q
    have e100 : T100.heap = T99.heap := hh100
    have f102 := (f96.keep K99 (ninS ne_b61_b79 nin0))
    have f104 := (f98.keep K99)
    obtain ⟨_, T103, Lc103, X103, hQ103, st103⟩ := own_virtual (W := 0) (y := mN6) (z := mN6) X100 hx hZ hown (hw _ (List.mem_of_getElem? (i := 41) rfl)) (hw _ (List.mem_of_getElem? (i := 42) rfl)) (notFace_of_selects (args := #[]) (mvT hZ (hw _ (List.mem_of_getElem? (i := 44) rfl)))) (hw _ (List.mem_of_getElem? (i := 44) rfl)) (hw _ (List.mem_of_getElem? (i := 43) rfl)) (hw _ (List.mem_of_getElem? (i := 45) rfl)) (hw _ (List.mem_of_getElem? (i := 34) rfl)) (by decide) (rmHas l Z av0 hw [] b79 b61 k61 ((1 : Int32) + (2 : Int32)) [(.ref b3), (.ref b14), (.ref b33)] (((0 : Int32) + (1 : Int32)) + (1 : Int32)) T99.heap n0 Zk99 FA99 FN99 f102) (by decide) (by decide) f104 (g := (mkF m 280 #[iv p0, iv p1, iv p2, iv p3, iv (((1 : Int32) + (2 : Int32))), iv (0 : Int32), iv (0 : Int32), rv b3, rv b14, rv b33, rv b61, rv b79, rv b3, rv b14, .unset] [(.ref b79)])) rfl (by rw [hml]; rfl) (argsL := []) (rest := []) (lenOf pd__Z rfl) rfl (by show 2 * 0 + _ ≤ _; exact Nat.le_of_eq rfl) (hb hby at_280) rfl e100 (by decide : 11 + 0 ≤ _) (by decide : 29 + 0 ≤ _)
    obtain ⟨rfl, N103q, hh103⟩ := hQ103
    have N103 := Fr.app N100 N103q
    have e103 : T103.heap = T99.heap := hh103
    obtain ⟨_, T105, Lc105, X105, hQ105, st105⟩ := own_virtual (W := 0) (y := mN7) (z := mN7) X103 hx hZ hown (hw _ (List.mem_of_getElem? (i := 48) rfl)) (hw _ (List.mem_of_getElem? (i := 49) rfl)) (notFace_of_selects (args := #[]) (mvT hZ (hw _ (List.mem_of_getElem? (i := 51) rfl)))) (hw _ (List.mem_of_getElem? (i := 51) rfl)) (hw _ (List.mem_of_getElem? (i := 50) rfl)) (hw _ (List.mem_of_getElem? (i := 52) rfl)) (hw _ (List.mem_of_getElem? (i := 34) rfl)) (by decide) (rmOpt l Z av0 hw [] b79 b61 k61 ((1 : Int32) + (2 : Int32)) [(.ref b3), (.ref b14), (.ref b33)] (((0 : Int32) + (1 : Int32)) + (1 : Int32)) b33 T99.heap n0 Zk99 FA99 FN99 f102 f104 ge_b79 (Ne.symm ne_b61_b79) (by decide) rfl) (by decide) (by decide) f104 (g := (mkF m 309 #[iv p0, iv p1, iv p2, iv p3, iv (((1 : Int32) + (2 : Int32))), iv (0 : Int32), iv (0 : Int32), rv b3, rv b14, rv b33, rv b61, rv b79, rv b3, rv b14, .unset] [(.ref b79)])) rfl (by rw [hml]; rfl) (argsL := []) (rest := []) (lenOf pd__Ljava_lang_String_ rfl) rfl (by show 2 * 0 + _ ≤ _; exact Nat.le_of_eq rfl) (hb hby at_309) rfl e103 (by decide : 11 + 0 ≤ _) (by decide : 29 + 0 ≤ _)
    obtain ⟨rfl, N105q, K105, FN105, FA105⟩ := hQ105
    have N105 := Fr.app N103 N105q
    have e105 : T105.heap = T105.heap := rfl
    have Zk105 : n0 ≤ T105.heap.size := Nat.le_trans Zk99 K105.1
    have Kk105 : Keep h0 T105.heap [] := Kk99.trans K105 (allS (Or.inr sz_b79) all0)
    have f107 := (((((f85.ext E79).keep K89).keep K93).keep K99).keep K105)
    obtain ⟨_, T106, Lc106, X106, hQ106, st106⟩ := own_virtual (W := 0) (y := mN9) (z := mN9) X105 hx hZ hown (hw _ (List.mem_of_getElem? (i := 53) rfl)) (hw _ (List.mem_of_getElem? (i := 54) rfl)) (notFace_of_selects (args := #[]) (mvT hZ (hw _ (List.mem_of_getElem? (i := 56) rfl)))) (hw _ (List.mem_of_getElem? (i := 56) rfl)) (hw _ (List.mem_of_getElem? (i := 55) rfl)) (hw _ (List.mem_of_getElem? (i := 57) rfl)) (hw _ (List.mem_of_getElem? (i := 3) rfl)) (by decide) (rmSame l Z av0 hw [] b33 T105.heap n0 Zk105 ) (by decide) (by decide) f107 (g := (mkF m 318 #[iv p0, iv p1, iv p2, iv p3, iv (((1 : Int32) + (2 : Int32))), iv (0 : Int32), iv (0 : Int32), rv b3, rv b14, rv b33, rv b61, rv b79, rv b3, rv b14, rv b33] [(.ref b33), (.ref b33)])) rfl (by rw [hml]; rfl) (argsL := [(.ref b33)]) (rest := []) (lenOf pd__Ljava_lang_Object_Z rfl) rfl (by show 2 * 0 + _ ≤ _; exact Nat.le_of_eq rfl) (hb hby at_318) rfl e105 (by decide : 11 + 0 ≤ _) (by decide : 29 + 0 ≤ _)
    obtain ⟨rfl, N106q, hh106⟩ := hQ106
    have N106 := Fr.app N105 N106q
    have e106 : T106.heap = T105.heap := hh106
    have f108 := (f102.keep K105 (ninS ne_b61_b79 nin0))
    have f110 := (f104.keep K105)
    obtain ⟨_, T109, Lc109, X109, hQ109, st109⟩ := own_virtual (W := 0) (y := mN6) (z := mN6) X106 hx hZ hown (hw _ (List.mem_of_getElem? (i := 41) rfl)) (hw _ (List.mem_of_getElem? (i := 42) rfl)) (notFace_of_selects (args := #[]) (mvT hZ (hw _ (List.mem_of_getElem? (i := 44) rfl)))) (hw _ (List.mem_of_getElem? (i := 44) rfl)) (hw _ (List.mem_of_getElem? (i := 43) rfl)) (hw _ (List.mem_of_getElem? (i := 45) rfl)) (hw _ (List.mem_of_getElem? (i := 34) rfl)) (by decide) (rmHas l Z av0 hw [] b79 b61 k61 ((1 : Int32) + (2 : Int32)) [(.ref b3), (.ref b14), (.ref b33)] ((((0 : Int32) + (1 : Int32)) + (1 : Int32)) + (1 : Int32)) T105.heap n0 Zk105 FA105 FN105 f108) (by decide) (by decide) f110 (g := (mkF m 328 #[iv p0, iv p1, iv p2, iv p3, iv (((1 : Int32) + (2 : Int32))), iv (0 : Int32), iv (0 : Int32), rv b3, rv b14, rv b33, rv b61, rv b79, rv b3, rv b14, rv b33] [(.ref b79)])) rfl (by rw [hml]; rfl) (argsL := []) (rest := []) (lenOf pd__Z rfl) rfl (by show 2 * 0 + _ ≤ _; exact Nat.le_of_eq rfl) (hb hby at_328) rfl e106 (by decide : 11 + 0 ≤ _) (by decide : 29 + 0 ≤ _)
    obtain ⟨rfl, N109q, hh109⟩ := hQ109
    have N109 := Fr.app N106 N109q
    have e109 : T109.heap = T105.heap := hh109
    have S111 : ∀ t, Steps p.tables e below (T109.setTop (mkF m 339 #[iv p0, iv p1, iv p2, iv p3, iv (((1 : Int32) + (2 : Int32))), iv (0 : Int32), iv (0 : Int32), rv b3, rv b14, rv b33, rv b61, rv b79, rv b3, rv b14, rv b33] [(.int (1 : Int32))])) t → Steps p.tables e below (s₁.setTop (mkF m 0 #[iv p0, iv p1, iv p2, iv p3, .unset, .unset, .unset, .unset, .unset, .unset, .unset, .unset, .unset, .unset, .unset] [])) t := fun t k => S1 t (by
      show Steps p.tables e below (s₁.setTop (mkF m 16 #[iv p0, iv p1, iv p2, iv p3, iv (((1 : Int32) + (2 : Int32))), .unset, .unset, .unset, .unset, .unset, .unset, .unset, .unset, .unset, .unset] [(.int ((XT.ushr p3 (8 : Int32)) &&& (1 : Int32)))])) _
      refine XS.ifYes X0.here hx rfl (pc0 := 16) (pc' := 23) rfl (hb hby at_16) rfl (XT.i0_eq_t hc16_2) (by decide) (by decide) ?_
      refine XT.iconstV X0.here hx rfl (0 : Int32) (hb hby at_23) (by decide) ?_
      refine XS.istore X0.here hx rfl (hb hby at_24) rfl (l' := #[iv p0, iv p1, iv p2, iv p3, iv (((1 : Int32) + (2 : Int32))), iv (0 : Int32), .unset, .unset, .unset, .unset, .unset, .unset, .unset, .unset, .unset]) rfl ?_
      refine XS.iloadN X0.here hx rfl (hb hby at_26) rfl ?_
      show Steps p.tables e below (s₁.setTop (mkF m 27 #[iv p0, iv p1, iv p2, iv p3, iv (((1 : Int32) + (2 : Int32))), iv (0 : Int32), .unset, .unset, .unset, .unset, .unset, .unset, .unset, .unset, .unset] [(.int p3)])) _
      refine XT.bipushV X0.here hx rfl (9 : Int32) (hb hby at_27) (by decide) ?_
      refine XT.iushr X0.here hx rfl (hb hby at_29) rfl ?_
      refine XT.iconstV X0.here hx rfl (1 : Int32) (hb hby at_30) (by decide) ?_
      refine XS.iand X0.here hx rfl (hb hby at_31) rfl ?_
      show Steps p.tables e below (s₁.setTop (mkF m 32 #[iv p0, iv p1, iv p2, iv p3, iv (((1 : Int32) + (2 : Int32))), iv (0 : Int32), .unset, .unset, .unset, .unset, .unset, .unset, .unset, .unset, .unset] [(.int ((XT.ushr p3 (9 : Int32)) &&& (1 : Int32)))])) _
      rw [he]
      show Steps p.tables e below (s₁.setTop (mkF m 32 #[iv p0, iv p1, iv p2, iv p3, iv (((1 : Int32) + (2 : Int32))), iv (0 : Int32), .unset, .unset, .unset, .unset, .unset, .unset, .unset, .unset, .unset] [(.int (0 : Int32))])) _
      refine XS.ifYes X0.here hx rfl (pc0 := 32) (pc' := 39) rfl (hb hby at_32) rfl (XT.i0_eq_t (by decide)) (by decide) (by decide) ?_
      show Steps p.tables e below (s₁.setTop (mkF m 39 #[iv p0, iv p1, iv p2, iv p3, iv (((1 : Int32) + (2 : Int32))), iv (0 : Int32), .unset, .unset, .unset, .unset, .unset, .unset, .unset, .unset, .unset] [])) _
      refine XT.iconstV X0.here hx rfl (0 : Int32) (hb hby at_39) (by decide) ?_
      refine XS.istore X0.here hx rfl (hb hby at_40) rfl (l' := #[iv p0, iv p1, iv p2, iv p3, iv (((1 : Int32) + (2 : Int32))), iv (0 : Int32), iv (0 : Int32), .unset, .unset, .unset, .unset, .unset, .unset, .unset, .unset]) rfl ?_
      refine XS.iload X0.here hx rfl (hb hby at_42) rfl ?_
      refine XS.ifYes X0.here hx rfl (pc0 := 44) (pc' := 60) rfl (hb hby at_44) rfl (XT.i0_eq_t (by decide)) (by decide) (by decide) ?_
      refine st3 _ ?_
      refine XS.dup X3.here hx rfl (hb hby at_63) rfl rfl ?_
      show Steps p.tables e below (T3.setTop (mkF m 64 #[iv p0, iv p1, iv p2, iv p3, iv (((1 : Int32) + (2 : Int32))), iv (0 : Int32), iv (0 : Int32), .unset, .unset, .unset, .unset, .unset, .unset, .unset, .unset] [(.ref b3), (.ref b3)])) _
      refine XT.iconstV X3.here hx rfl (2 : Int32) (hb hby at_64) (by decide) ?_
      refine st4 _ ?_
      refine XS.dup X4.here hx rfl (hb hby at_67) rfl rfl ?_
      refine XT.iconstV X4.here hx rfl (0 : Int32) (hb hby at_68) (by decide) ?_
      refine XS.iloadN X4.here hx rfl (hb hby at_69) rfl ?_
      refine XT.sipushV X4.here hx rfl (255 : Int32) (hb hby at_70) (by decide) ?_
      show Steps p.tables e below (T4.setTop (mkF m 73 #[iv p0, iv p1, iv p2, iv p3, iv (((1 : Int32) + (2 : Int32))), iv (0 : Int32), iv (0 : Int32), .unset, .unset, .unset, .unset, .unset, .unset, .unset, .unset] [(.int (255 : Int32)), (.int p0), (.int (0 : Int32)), (.ref b4), (.ref b4), (.ref b3), (.ref b3)])) _
      refine XS.iand X4.here hx rfl (hb hby at_73) rfl ?_
      refine XT.i2c X4.here hx rfl (hb hby at_74) rfl ?_
      refine st6 _ ?_
      refine XS.dup X6.here hx rfl (hb hby at_76) rfl rfl ?_
      refine XT.iconstV X6.here hx rfl (1 : Int32) (hb hby at_77) (by decide) ?_
      refine XT.bipushV X6.here hx rfl (97 : Int32) (hb hby at_78) (by decide) ?_
      show Steps p.tables e below (T6.setTop (mkF m 80 #[iv p0, iv p1, iv p2, iv p3, iv (((1 : Int32) + (2 : Int32))), iv (0 : Int32), iv (0 : Int32), .unset, .unset, .unset, .unset, .unset, .unset, .unset, .unset] [(.int (97 : Int32)), (.int (1 : Int32)), (.ref b4), (.ref b4), (.ref b3), (.ref b3)])) _
      refine st8 _ ?_
      refine st13 _ ?_
      refine XS.astore X13.here hx rfl (hb hby at_84) rfl rfl (l' := #[iv p0, iv p1, iv p2, iv p3, iv (((1 : Int32) + (2 : Int32))), iv (0 : Int32), iv (0 : Int32), rv b3, .unset, .unset, .unset, .unset, .unset, .unset, .unset]) rfl ?_
      refine st14 _ ?_
      refine XS.dup X14.here hx rfl (hb hby at_89) rfl rfl ?_
      refine XT.iconstV X14.here hx rfl (2 : Int32) (hb hby at_90) (by decide) ?_
      show Steps p.tables e below (T14.setTop (mkF m 91 #[iv p0, iv p1, iv p2, iv p3, iv (((1 : Int32) + (2 : Int32))), iv (0 : Int32), iv (0 : Int32), rv b3, .unset, .unset, .unset, .unset, .unset, .unset, .unset] [(.int (2 : Int32)), (.ref b14), (.ref b14)])) _
      refine st17 _ ?_
      refine XS.dup X17.here hx rfl (hb hby at_93) rfl rfl ?_
      refine XT.iconstV X17.here hx rfl (0 : Int32) (hb hby at_94) (by decide) ?_
      refine XS.iloadN X17.here hx rfl (hb hby at_95) rfl ?_
      refine XT.sipushV X17.here hx rfl (255 : Int32) (hb hby at_96) (by decide) ?_
      refine XS.iand X17.here hx rfl (hb hby at_99) rfl ?_
      show Steps p.tables e below (T17.setTop (mkF m 100 #[iv p0, iv p1, iv p2, iv p3, iv (((1 : Int32) + (2 : Int32))), iv (0 : Int32), iv (0 : Int32), rv b3, .unset, .unset, .unset, .unset, .unset, .unset, .unset] [(.int (p1 &&& (255 : Int32))), (.int (0 : Int32)), (.ref b17), (.ref b17), (.ref b14), (.ref b14)])) _
      refine XT.i2c X17.here hx rfl (hb hby at_100) rfl ?_
      refine st22 _ ?_
      refine XS.dup X22.here hx rfl (hb hby at_102) rfl rfl ?_
      refine XT.iconstV X22.here hx rfl (1 : Int32) (hb hby at_103) (by decide) ?_
      refine XT.bipushV X22.here hx rfl (98 : Int32) (hb hby at_104) (by decide) ?_
      refine st24 _ ?_
      show Steps p.tables e below (T24.setTop (mkF m 107 #[iv p0, iv p1, iv p2, iv p3, iv (((1 : Int32) + (2 : Int32))), iv (0 : Int32), iv (0 : Int32), rv b3, .unset, .unset, .unset, .unset, .unset, .unset, .unset] [(.ref b17), (.ref b14), (.ref b14)])) _
      refine st29 _ ?_
      refine XS.astore X29.here hx rfl (hb hby at_110) rfl rfl (l' := #[iv p0, iv p1, iv p2, iv p3, iv (((1 : Int32) + (2 : Int32))), iv (0 : Int32), iv (0 : Int32), rv b3, rv b14, .unset, .unset, .unset, .unset, .unset, .unset]) rfl ?_
      refine st33 _ ?_
      refine XS.dup X33.here hx rfl (hb hby at_115) rfl rfl ?_
      refine XT.iconstV X33.here hx rfl (2 : Int32) (hb hby at_116) (by decide) ?_
      refine st39 _ ?_
      show Steps p.tables e below (T39.setTop (mkF m 119 #[iv p0, iv p1, iv p2, iv p3, iv (((1 : Int32) + (2 : Int32))), iv (0 : Int32), iv (0 : Int32), rv b3, rv b14, .unset, .unset, .unset, .unset, .unset, .unset] [(.ref b39), (.ref b33), (.ref b33)])) _
      refine XS.dup X39.here hx rfl (hb hby at_119) rfl rfl ?_
      refine XT.iconstV X39.here hx rfl (0 : Int32) (hb hby at_120) (by decide) ?_
      refine XS.iloadN X39.here hx rfl (hb hby at_121) rfl ?_
      refine XT.sipushV X39.here hx rfl (255 : Int32) (hb hby at_122) (by decide) ?_
      refine XS.iand X39.here hx rfl (hb hby at_125) rfl ?_
      refine XT.i2c X39.here hx rfl (hb hby at_126) rfl ?_
      show Steps p.tables e below (T39.setTop (mkF m 127 #[iv p0, iv p1, iv p2, iv p3, iv (((1 : Int32) + (2 : Int32))), iv (0 : Int32), iv (0 : Int32), rv b3, rv b14, .unset, .unset, .unset, .unset, .unset, .unset] [(.int ((p2 &&& (255 : Int32))).toUInt32.toUInt16.toUInt32.toInt32), (.int (0 : Int32)), (.ref b39), (.ref b39), (.ref b33), (.ref b33)])) _
      refine st47 _ ?_
      refine XS.dup X47.here hx rfl (hb hby at_128) rfl rfl ?_
      refine XT.iconstV X47.here hx rfl (1 : Int32) (hb hby at_129) (by decide) ?_
      refine XT.bipushV X47.here hx rfl (99 : Int32) (hb hby at_130) (by decide) ?_
      refine st49 _ ?_
      refine st54 _ ?_
      show Steps p.tables e below (T54.setTop (mkF m 136 #[iv p0, iv p1, iv p2, iv p3, iv (((1 : Int32) + (2 : Int32))), iv (0 : Int32), iv (0 : Int32), rv b3, rv b14, .unset, .unset, .unset, .unset, .unset, .unset] [(.ref b33)])) _
      refine XS.astore X54.here hx rfl (hb hby at_136) rfl rfl (l' := #[iv p0, iv p1, iv p2, iv p3, iv (((1 : Int32) + (2 : Int32))), iv (0 : Int32), iv (0 : Int32), rv b3, rv b14, rv b33, .unset, .unset, .unset, .unset, .unset]) rfl ?_
      refine XS.iload X54.here hx rfl (hb hby at_138) rfl ?_
      refine st61 _ ?_
      refine XS.astore X61.here hx rfl (hb hby at_143) rfl rfl (l' := #[iv p0, iv p1, iv p2, iv p3, iv (((1 : Int32) + (2 : Int32))), iv (0 : Int32), iv (0 : Int32), rv b3, rv b14, rv b33, rv b61, .unset, .unset, .unset, .unset]) rfl ?_
      refine XS.aload X61.here hx rfl (hb hby at_145) rfl rfl ?_
      refine XT.iconstV X61.here hx rfl (0 : Int32) (hb hby at_147) (by decide) ?_
      show Steps p.tables e below (T61.setTop (mkF m 148 #[iv p0, iv p1, iv p2, iv p3, iv (((1 : Int32) + (2 : Int32))), iv (0 : Int32), iv (0 : Int32), rv b3, rv b14, rv b33, rv b61, .unset, .unset, .unset, .unset] [(.int (0 : Int32)), (.ref b61)])) _
      refine XS.aload X61.here hx rfl (hb hby at_148) rfl rfl ?_
      refine st72 _ ?_
      refine XS.iload X72.here hx rfl (hb hby at_151) rfl ?_
      refine XT.iconstV X72.here hx rfl (1 : Int32) (hb hby at_153) (by decide) ?_
      refine XS.icmpNo X72.here hx rfl (hb hby at_154) rfl (XT.ii_le_f (by decide)) ?_
      refine XS.aload X72.here hx rfl (hb hby at_157) rfl rfl ?_
      show Steps p.tables e below (T72.setTop (mkF m 159 #[iv p0, iv p1, iv p2, iv p3, iv (((1 : Int32) + (2 : Int32))), iv (0 : Int32), iv (0 : Int32), rv b3, rv b14, rv b33, rv b61, .unset, .unset, .unset, .unset] [(.ref b61)])) _
      refine XT.iconstV X72.here hx rfl (1 : Int32) (hb hby at_159) (by decide) ?_
      refine XS.aload X72.here hx rfl (hb hby at_160) rfl rfl ?_
      refine st75 _ ?_
      refine XS.iload X75.here hx rfl (hb hby at_163) rfl ?_
      refine XT.iconstV X75.here hx rfl (2 : Int32) (hb hby at_165) (by decide) ?_
      refine XS.icmpNo X75.here hx rfl (hb hby at_166) rfl (XT.ii_le_f (by decide)) ?_
      show Steps p.tables e below (T75.setTop (mkF m 169 #[iv p0, iv p1, iv p2, iv p3, iv (((1 : Int32) + (2 : Int32))), iv (0 : Int32), iv (0 : Int32), rv b3, rv b14, rv b33, rv b61, .unset, .unset, .unset, .unset] [])) _
      refine XS.aload X75.here hx rfl (hb hby at_169) rfl rfl ?_
      refine XT.iconstV X75.here hx rfl (2 : Int32) (hb hby at_171) (by decide) ?_
      refine XS.aload X75.here hx rfl (hb hby at_172) rfl rfl ?_
      refine st78 _ ?_
      refine st79 _ ?_
      refine XS.dup X79.here hx rfl (hb hby at_178) rfl rfl ?_
      show Steps p.tables e below (T79.setTop (mkF m 179 #[iv p0, iv p1, iv p2, iv p3, iv (((1 : Int32) + (2 : Int32))), iv (0 : Int32), iv (0 : Int32), rv b3, rv b14, rv b33, rv b61, .unset, .unset, .unset, .unset] [(.ref b79), (.ref b79)])) _
      refine XS.aload X79.here hx rfl (hb hby at_179) rfl rfl ?_
      refine st89 _ ?_
      refine XS.astore X89.here hx rfl (hb hby at_184) rfl rfl (l' := #[iv p0, iv p1, iv p2, iv p3, iv (((1 : Int32) + (2 : Int32))), iv (0 : Int32), iv (0 : Int32), rv b3, rv b14, rv b33, rv b61, rv b79, .unset, .unset, .unset]) rfl ?_
      refine XS.aload X89.here hx rfl (hb hby at_186) rfl rfl ?_
      refine st91 _ ?_
      refine XS.ifYes X91.here hx rfl (pc0 := 191) (pc' := 196) rfl (hb hby at_191) rfl (XT.i0_ne_t (by decide)) (by decide) (by decide) ?_
      show Steps p.tables e below (T91.setTop (mkF m 196 #[iv p0, iv p1, iv p2, iv p3, iv (((1 : Int32) + (2 : Int32))), iv (0 : Int32), iv (0 : Int32), rv b3, rv b14, rv b33, rv b61, rv b79, .unset, .unset, .unset] [])) _
      refine XS.aload X91.here hx rfl (hb hby at_196) rfl rfl ?_
      refine st93 _ ?_
      refine XS.astore X93.here hx rfl (hb hby at_201) rfl rfl (l' := #[iv p0, iv p1, iv p2, iv p3, iv (((1 : Int32) + (2 : Int32))), iv (0 : Int32), iv (0 : Int32), rv b3, rv b14, rv b33, rv b61, rv b79, rv b3, .unset, .unset]) rfl ?_
      refine XS.aload X93.here hx rfl (hb hby at_203) rfl rfl ?_
      refine XS.aload X93.here hx rfl (hb hby at_205) rfl rfl ?_
      refine st94 _ ?_
      show Steps p.tables e below (T94.setTop (mkF m 210 #[iv p0, iv p1, iv p2, iv p3, iv (((1 : Int32) + (2 : Int32))), iv (0 : Int32), iv (0 : Int32), rv b3, rv b14, rv b33, rv b61, rv b79, rv b3, .unset, .unset] [(.int (1 : Int32))])) _
      refine XS.ifYes X94.here hx rfl (pc0 := 210) (pc' := 215) rfl (hb hby at_210) rfl (XT.i0_ne_t (by decide)) (by decide) (by decide) ?_
      refine XS.aload X94.here hx rfl (hb hby at_215) rfl rfl ?_
      refine st97 _ ?_
      refine XS.iload X97.here hx rfl (hb hby at_220) rfl ?_
      refine XT.iconstV X97.here hx rfl (1 : Int32) (hb hby at_222) (by decide) ?_
      refine XS.icmpNo X97.here hx rfl (hb hby at_223) rfl (XT.ii_le_f (by decide)) ?_
      show Steps p.tables e below (T97.setTop (mkF m 226 #[iv p0, iv p1, iv p2, iv p3, iv (((1 : Int32) + (2 : Int32))), iv (0 : Int32), iv (0 : Int32), rv b3, rv b14, rv b33, rv b61, rv b79, rv b3, .unset, .unset] [(.int (own_lt ((0 : Int32) + (1 : Int32)) ((1 : Int32) + (2 : Int32))))])) _
      refine XT.iconstV X97.here hx rfl (1 : Int32) (hb hby at_226) (by decide) ?_
      refine XS.goto X97.here hx rfl (pc0 := 227) (pc' := 231) rfl (hb hby at_227) (by decide) (by decide) ?_
      refine XS.icmpYes X97.here hx rfl (pc0 := 231) (pc' := 236) rfl (hb hby at_231) rfl (XT.ii_eq_t (by decide)) (by decide) (by decide) ?_
      refine XS.iload X97.here hx rfl (hb hby at_236) rfl ?_
      refine XT.iconstV X97.here hx rfl (1 : Int32) (hb hby at_238) (by decide) ?_
      refine XS.icmpYes X97.here hx rfl (pc0 := 239) (pc' := 244) rfl (hb hby at_239) rfl (XT.ii_ne_t (by decide)) (by decide) (by decide) ?_
      show Steps p.tables e below (T97.setTop (mkF m 244 #[iv p0, iv p1, iv p2, iv p3, iv (((1 : Int32) + (2 : Int32))), iv (0 : Int32), iv (0 : Int32), rv b3, rv b14, rv b33, rv b61, rv b79, rv b3, .unset, .unset] [])) _
      refine XS.iload X97.here hx rfl (hb hby at_244) rfl ?_
      refine XS.ifYes X97.here hx rfl (pc0 := 246) (pc' := 259) rfl (hb hby at_246) rfl (XT.i0_eq_t (by decide)) (by decide) (by decide) ?_
      refine XS.aload X97.here hx rfl (hb hby at_259) rfl rfl ?_
      refine st99 _ ?_
      refine XS.astore X99.here hx rfl (hb hby at_264) rfl rfl (l' := #[iv p0, iv p1, iv p2, iv p3, iv (((1 : Int32) + (2 : Int32))), iv (0 : Int32), iv (0 : Int32), rv b3, rv b14, rv b33, rv b61, rv b79, rv b3, rv b14, .unset]) rfl ?_
      refine XS.aload X99.here hx rfl (hb hby at_266) rfl rfl ?_
      show Steps p.tables e below (T99.setTop (mkF m 268 #[iv p0, iv p1, iv p2, iv p3, iv (((1 : Int32) + (2 : Int32))), iv (0 : Int32), iv (0 : Int32), rv b3, rv b14, rv b33, rv b61, rv b79, rv b3, rv b14, .unset] [(.ref b14)])) _
      refine XS.aload X99.here hx rfl (hb hby at_268) rfl rfl ?_
      refine st100 _ ?_
      refine XS.ifYes X100.here hx rfl (pc0 := 273) (pc' := 278) rfl (hb hby at_273) rfl (XT.i0_ne_t (by decide)) (by decide) (by decide) ?_
      refine XS.aload X100.here hx rfl (hb hby at_278) rfl rfl ?_
      refine st103 _ ?_
      refine XS.iload X103.here hx rfl (hb hby at_283) rfl ?_
      show Steps p.tables e below (T103.setTop (mkF m 285 #[iv p0, iv p1, iv p2, iv p3, iv (((1 : Int32) + (2 : Int32))), iv (0 : Int32), iv (0 : Int32), rv b3, rv b14, rv b33, rv b61, rv b79, rv b3, rv b14, .unset] [(.int ((1 : Int32) + (2 : Int32))), (.int (own_lt (((0 : Int32) + (1 : Int32)) + (1 : Int32)) ((1 : Int32) + (2 : Int32))))])) _
      refine XT.iconstV X103.here hx rfl (2 : Int32) (hb hby at_285) (by decide) ?_
      refine XS.icmpNo X103.here hx rfl (hb hby at_286) rfl (XT.ii_le_f (by decide)) ?_
      refine XT.iconstV X103.here hx rfl (1 : Int32) (hb hby at_289) (by decide) ?_
      refine XS.goto X103.here hx rfl (pc0 := 290) (pc' := 294) rfl (hb hby at_290) (by decide) (by decide) ?_
      refine XS.icmpYes X103.here hx rfl (pc0 := 294) (pc' := 299) rfl (hb hby at_294) rfl (XT.ii_eq_t (by decide)) (by decide) (by decide) ?_
      refine XS.iload X103.here hx rfl (hb hby at_299) rfl ?_
      show Steps p.tables e below (T103.setTop (mkF m 301 #[iv p0, iv p1, iv p2, iv p3, iv (((1 : Int32) + (2 : Int32))), iv (0 : Int32), iv (0 : Int32), rv b3, rv b14, rv b33, rv b61, rv b79, rv b3, rv b14, .unset] [(.int ((1 : Int32) + (2 : Int32)))])) _
      refine XT.iconstV X103.here hx rfl (2 : Int32) (hb hby at_301) (by decide) ?_
      refine XS.icmpYes X103.here hx rfl (pc0 := 302) (pc' := 307) rfl (hb hby at_302) rfl (XT.ii_ne_t (by decide)) (by decide) (by decide) ?_
      refine XS.aload X103.here hx rfl (hb hby at_307) rfl rfl ?_
      refine st105 _ ?_
      refine XS.astore X105.here hx rfl (hb hby at_312) rfl rfl (l' := #[iv p0, iv p1, iv p2, iv p3, iv (((1 : Int32) + (2 : Int32))), iv (0 : Int32), iv (0 : Int32), rv b3, rv b14, rv b33, rv b61, rv b79, rv b3, rv b14, rv b33]) rfl ?_
      refine XS.aload X105.here hx rfl (hb hby at_314) rfl rfl ?_
      show Steps p.tables e below (T105.setTop (mkF m 316 #[iv p0, iv p1, iv p2, iv p3, iv (((1 : Int32) + (2 : Int32))), iv (0 : Int32), iv (0 : Int32), rv b3, rv b14, rv b33, rv b61, rv b79, rv b3, rv b14, rv b33] [(.ref b33)])) _
      refine XS.aload X105.here hx rfl (hb hby at_316) rfl rfl ?_
      refine st106 _ ?_
      refine XS.ifYes X106.here hx rfl (pc0 := 321) (pc' := 326) rfl (hb hby at_321) rfl (XT.i0_ne_t (by decide)) (by decide) (by decide) ?_
      refine XS.aload X106.here hx rfl (hb hby at_326) rfl rfl ?_
      refine st109 _ ?_
      refine XS.ifNo X109.here hx rfl (hb hby at_331) rfl (XT.i0_ne_f (by decide)) ?_
      show Steps p.tables e below (T109.setTop (mkF m 334 #[iv p0, iv p1, iv p2, iv p3, iv (((1 : Int32) + (2 : Int32))), iv (0 : Int32), iv (0 : Int32), rv b3, rv b14, rv b33, rv b61, rv b79, rv b3, rv b14, rv b33] [])) _
      refine XT.iconstV X109.here hx rfl (1 : Int32) (hb hby at_334) (by decide) ?_
      refine XS.goto X109.here hx rfl (pc0 := 335) (pc' := 339) rfl (hb hby at_335) (by decide) (by decide) ?_
      exact k)
    obtain ⟨fs, hr, hrun, hended, hW, hsame⟩ := X109.leave (v := some (.int (1 : Int32))) (fun h => by rw [Bd.returns] at h; cases h)
    refine ⟨_, _, pre0 _ (S111 _ ?_), hrun, hended, _, _, rfl, ?_, ReturnedEndW.of_narrow ⟨_, rfl⟩ hW (hsame.mono (by decide) (by decide))⟩
    · exact retN X109 hx (t := .boolean) Bd.returns (by simp) (hb hby at_339) hr
    · show Qrm0 Z p0 p1 p2 p3 wC h0 n0 _ T109.heap _
      rw [e109]
      exact ⟨rfl, N109⟩
  · obtain ⟨T112, h112, X112, e112, E112, A112, D112, -, st112⟩ := newO X0 hx hZ hown (hw _ (List.mem_of_getElem? (i := 1) rfl)) (hw _ (List.mem_of_getElem? (i := 2) rfl)) (hw _ (List.mem_of_getElem? (i := 3) rfl)) e0 (g := (mkF m 60 #[iv p0, iv p1, iv p2, iv p3, iv (((1 : Int32) + (2 : Int32))), iv (1 : Int32), iv (0 : Int32), .unset, .unset, .unset, .unset, .unset, .unset, .unset, .unset] [])) rfl (hb hby at_60) (by decide) (by decide)
    obtain ⟨b112, g112⟩ : ∃ z, z = h0.size := ⟨_, rfl⟩
    rw [← g112] at A112 D112 st112
    have ge_b112 : n0 ≤ b112 := Nat.le_trans Z0 (Nat.le_of_eq g112.symm)
    have sz_b112 : h0.size ≤ b112 := Nat.le_of_eq g112.symm
    have Z112 : n0 ≤ h112.size := Nat.le_trans Z0 E112.1
    have K112 : Keep h0 h112 [] := (Keep.refl h0 []).ext E112
    have F112_coder : Fld Z h112 b112 "java/lang/String" "coder" "B" (.int (0 : Int32)) := D112 (Or.inr (hw _ (List.mem_of_getElem? (i := 28) rfl))) (ty := .byte) (by decide)
    have F112_value : Fld Z h112 b112 "java/lang/String" "value" "[B" .null := D112 (Or.inr (hw _ (List.mem_of_getElem? (i := 30) rfl))) (ty := (.array .byte)) (by decide)
    obtain ⟨T113, h113, k113, X113, e113, E113, A113, st113⟩ := newP X112 hx hZ (hw _ (List.mem_of_getElem? (i := 4) rfl)) e112 (g := (mkF m 65 #[iv p0, iv p1, iv p2, iv p3, iv (((1 : Int32) + (2 : Int32))), iv (1 : Int32), iv (0 : Int32), .unset, .unset, .unset, .unset, .unset, .unset, .unset, .unset] [(.int (2 : Int32)), (.ref b112), (.ref b112)])) rfl (hb hby at_65) rfl (by decide) (cap := 2) (by decide) (by decide) (by decide) (by decide)
    obtain ⟨b113, g113⟩ : ∃ z, z = h112.size := ⟨_, rfl⟩
    rw [← g113] at A113 st113
    have ne_b112_b113 : b112 ≠ b113 := Nat.ne_of_lt (Nat.lt_of_lt_of_le A112.lt (Nat.le_of_eq g113.symm))
    have ge_b113 : n0 ≤ b113 := Nat.le_trans Z112 (Nat.le_of_eq g113.symm)
    have sz_b113 : h0.size ≤ b113 := Nat.le_trans K112.1 (Nat.le_of_eq g113.symm)
    have Z113 : n0 ≤ h113.size := Nat.le_trans Z112 E113.1
    have K113 : Keep h0 h113 [] := K112.ext E113
    have V113 : Arv Z h113 b113 k113 .char (2 : Int32) [(.int (0 : Int32)), (.int (0 : Int32))] (.int (0 : Int32)) := (Arv.new A113 (by decide)).pad (pad_rep [] (.int (0 : Int32)) 2)
    obtain ⟨cl114, Ar114, qk114, Sz114, Ng114, Hs114, Gs114⟩ := id V113
    have hin114 : ¬ ((0 : Int32) < 0 ∨ cl114.slots.size ≤ ((0 : Int32)).toNatClampNeg) := inb_of Sz114 ⟨by decide, by decide⟩
    obtain ⟨T115, h115, X115, e115, W115, st115⟩ := stC X113 hx hZ e113 Ar114 (j := (0 : Int32)) hin114 (g := (mkF m 75 #[iv p0, iv p1, iv p2, iv p3, iv (((1 : Int32) + (2 : Int32))), iv (1 : Int32), iv (0 : Int32), .unset, .unset, .unset, .unset, .unset, .unset, .unset, .unset] [(.int ((p0 &&& (255 : Int32))).toUInt32.toUInt16.toUInt32.toInt32), (.int (0 : Int32)), (.ref b113), (.ref b113), (.ref b112), (.ref b112)])) rfl rfl (hb hby at_75)
    have N115 := Fr.snoc X115 N0 ge_b113
    have Z115 : n0 ≤ h115.size := Nat.le_trans Z113 (Nat.le_of_eq W115.size.symm)
    have K115 : Keep h0 h115 [] := K113.wr W115 (Or.inr sz_b113)
    have V115 : Arv Z h115 b113 k113 .char (2 : Int32) [(.int (nar .char ((p0 &&& (255 : Int32))).toUInt32.toUInt16.toUInt32.toInt32)), (.int (0 : Int32))] (.int (0 : Int32)) := Arv.set Ar114 qk114 Sz114 Ng114 Hs114 Gs114 (fits_nar_char _) W115 0 rfl (Nat.le_of_ble_eq_true rfl)
    obtain ⟨cl116, Ar116, qk116, Sz116, Ng116, Hs116, Gs116⟩ := id V115
    have hin116 : ¬ ((1 : Int32) < 0 ∨ cl116.slots.size ≤ ((1 : Int32)).toNatClampNeg) := inb_of Sz116 ⟨by decide, by decide⟩
    obtain ⟨T117, h117, X117, e117, W117, st117⟩ := stC X115 hx hZ e115 Ar116 (j := (1 : Int32)) hin116 (g := (mkF m 80 #[iv p0, iv p1, iv p2, iv p3, iv (((1 : Int32) + (2 : Int32))), iv (1 : Int32), iv (0 : Int32), .unset, .unset, .unset, .unset, .unset, .unset, .unset, .unset] [(.int (97 : Int32)), (.int (1 : Int32)), (.ref b113), (.ref b113), (.ref b112), (.ref b112)])) rfl rfl (hb hby at_80)
    have N117 := Fr.snoc X117 N115 ge_b113
    have Z117 : n0 ≤ h117.size := Nat.le_trans Z115 (Nat.le_of_eq W117.size.symm)
    have K117 : Keep h0 h117 [] := K115.wr W117 (Or.inr sz_b113)
    have V117 : Arv Z h117 b113 k113 .char (2 : Int32) [(.int (nar .char ((p0 &&& (255 : Int32))).toUInt32.toUInt16.toUInt32.toInt32)), (.int (nar .char (97 : Int32)))] (.int (0 : Int32)) := Arv.set Ar116 qk116 Sz116 Ng116 Hs116 Gs116 (fits_nar_char _) W117 1 rfl (Nat.le_of_ble_eq_true rfl)
    have f118 := (((A112.ext E113).wr W115).wr W117)
    have f119 := (((F112_value.ext E113).other W115 (Or.inl ne_b112_b113)).other W117 (Or.inl ne_b112_b113))
    have f120 := (((F112_coder.ext E113).other W115 (Or.inl ne_b112_b113)).other W117 (Or.inl ne_b112_b113))
    have f121 := ((((hS.ext E112).ext E113).wr W115).wr W117)
    obtain ⟨_, T122, Lc122, X122, hQ122, st122⟩ := own_special (W := 1) (y := mN4) X117 hx hZ rfl hown (hw _ (List.mem_of_getElem? (i := 5) rfl)) (hw _ (List.mem_of_getElem? (i := 6) rfl)) (hw _ (List.mem_of_getElem? (i := 7) rfl)) (hw _ (List.mem_of_getElem? (i := 3) rfl)) (by decide) (rmSi2_2 l Z av0 hw [] b112 b113 k113 wC (nar .char ((p0 &&& (255 : Int32))).toUInt32.toUInt16.toUInt32.toInt32) (nar .char (97 : Int32)) h117 n0 Z117 f118 f119 f120 ge_b112 V117 f121 hw0 (own_ch p0) (by decide)) (by decide) (by decide) (g := (mkF m 81 #[iv p0, iv p1, iv p2, iv p3, iv (((1 : Int32) + (2 : Int32))), iv (1 : Int32), iv (0 : Int32), .unset, .unset, .unset, .unset, .unset, .unset, .unset, .unset] [(.ref b113), (.ref b112), (.ref b112)])) rfl (by rw [hml]; rfl) (a := b112) (argsL := [(.ref b113)]) (rest := [(.ref b112)]) (lenOf pd__C_V rfl) rfl (by show 2 * 0 + _ ≤ _; exact Nat.le_of_eq rfl) (hb hby at_81) rfl e117 (by decide : 2 + 1 ≤ _) (by decide : 6 + 2 ≤ _)
    obtain ⟨rfl, N122q, K122, FC122, b122, kb122, FV122, V122, gb122⟩ := hQ122
    have N122 := Fr.app N117 N122q
    have e122 : T122.heap = T122.heap := rfl
    have ne_b112_b122 : b112 ≠ b122 := Nat.ne_of_lt (Nat.lt_of_lt_of_le f118.lt gb122)
    have ne_b113_b122 : b113 ≠ b122 := Nat.ne_of_lt (Nat.lt_of_lt_of_le V117.lt gb122)
    have ge_b122 : n0 ≤ b122 := Nat.le_trans Z117 gb122
    have sz_b122 : h0.size ≤ b122 := Nat.le_trans K117.1 gb122
    have Zk122 : n0 ≤ T122.heap.size := Nat.le_trans Z117 K122.1
    have Kk122 : Keep h0 T122.heap [] := K117.trans K122 (allS (Or.inr sz_b112) all0)
    obtain ⟨T123, h123, X123, e123, E123, A123, D123, -, st123⟩ := newO X122 hx hZ hown (hw _ (List.mem_of_getElem? (i := 1) rfl)) (hw _ (List.mem_of_getElem? (i := 2) rfl)) (hw _ (List.mem_of_getElem? (i := 3) rfl)) e122 (g := (mkF m 86 #[iv p0, iv p1, iv p2, iv p3, iv (((1 : Int32) + (2 : Int32))), iv (1 : Int32), iv (0 : Int32), rv b112, .unset, .unset, .unset, .unset, .unset, .unset, .unset] [])) rfl (hb hby at_86) (by decide) (by decide)
    obtain ⟨b123, g123⟩ : ∃ z, z = T122.heap.size := ⟨_, rfl⟩
    rw [← g123] at A123 D123 st123
    have f124 := (f118.keep K122)
    have ne_b112_b123 : b112 ≠ b123 := Nat.ne_of_lt (Nat.lt_of_lt_of_le f124.lt (Nat.le_of_eq g123.symm))
    have f125 := (V117.keep K122 (ninS (Ne.symm ne_b112_b113) nin0))
    have ne_b113_b123 : b113 ≠ b123 := Nat.ne_of_lt (Nat.lt_of_lt_of_le f125.lt (Nat.le_of_eq g123.symm))
    have ne_b122_b123 : b122 ≠ b123 := Nat.ne_of_lt (Nat.lt_of_lt_of_le V122.lt (Nat.le_of_eq g123.symm))
    have ge_b123 : n0 ≤ b123 := Nat.le_trans Zk122 (Nat.le_of_eq g123.symm)
    have sz_b123 : h0.size ≤ b123 := Nat.le_trans Kk122.1 (Nat.le_of_eq g123.symm)
    have Z123 : n0 ≤ h123.size := Nat.le_trans Zk122 E123.1
    have K123 : Keep h0 h123 [] := Kk122.ext E123
    have F123_coder : Fld Z h123 b123 "java/lang/String" "coder" "B" (.int (0 : Int32)) := D123 (Or.inr (hw _ (List.mem_of_getElem? (i := 28) rfl))) (ty := .byte) (by decide)
    have F123_value : Fld Z h123 b123 "java/lang/String" "value" "[B" .null := D123 (Or.inr (hw _ (List.mem_of_getElem? (i := 30) rfl))) (ty := (.array .byte)) (by decide)
    obtain ⟨T126, h126, k126, X126, e126, E126, A126, st126⟩ := newP X123 hx hZ (hw _ (List.mem_of_getElem? (i := 4) rfl)) e123 (g := (mkF m 91 #[iv p0, iv p1, iv p2, iv p3, iv (((1 : Int32) + (2 : Int32))), iv (1 : Int32), iv (0 : Int32), rv b112, .unset, .unset, .unset, .unset, .unset, .unset, .unset] [(.int (2 : Int32)), (.ref b123), (.ref b123)])) rfl (hb hby at_91) rfl (by decide) (cap := 2) (by decide) (by decide) (by decide) (by decide)
    obtain ⟨b126, g126⟩ : ∃ z, z = h123.size := ⟨_, rfl⟩
    rw [← g126] at A126 st126
    have f127 := (f124.ext E123)
    have ne_b112_b126 : b112 ≠ b126 := Nat.ne_of_lt (Nat.lt_of_lt_of_le f127.lt (Nat.le_of_eq g126.symm))
    have f128 := (f125.ext E123)
    have ne_b113_b126 : b113 ≠ b126 := Nat.ne_of_lt (Nat.lt_of_lt_of_le f128.lt (Nat.le_of_eq g126.symm))
    have f129 := (V122.ext E123)
    have ne_b122_b126 : b122 ≠ b126 := Nat.ne_of_lt (Nat.lt_of_lt_of_le f129.lt (Nat.le_of_eq g126.symm))
    have ne_b123_b126 : b123 ≠ b126 := Nat.ne_of_lt (Nat.lt_of_lt_of_le A123.lt (Nat.le_of_eq g126.symm))
    have ge_b126 : n0 ≤ b126 := Nat.le_trans Z123 (Nat.le_of_eq g126.symm)
    have sz_b126 : h0.size ≤ b126 := Nat.le_trans K123.1 (Nat.le_of_eq g126.symm)
    have Z126 : n0 ≤ h126.size := Nat.le_trans Z123 E126.1
    have K126 : Keep h0 h126 [] := K123.ext E126
    have V126 : Arv Z h126 b126 k126 .char (2 : Int32) [(.int (0 : Int32)), (.int (0 : Int32))] (.int (0 : Int32)) := (Arv.new A126 (by decide)).pad (pad_rep [] (.int (0 : Int32)) 2)
    obtain ⟨cl130, Ar130, qk130, Sz130, Ng130, Hs130, Gs130⟩ := id V126
    have hin130 : ¬ ((0 : Int32) < 0 ∨ cl130.slots.size ≤ ((0 : Int32)).toNatClampNeg) := inb_of Sz130 ⟨by decide, by decide⟩
    obtain ⟨T131, h131, X131, e131, W131, st131⟩ := stC X126 hx hZ e126 Ar130 (j := (0 : Int32)) hin130 (g := (mkF m 101 #[iv p0, iv p1, iv p2, iv p3, iv (((1 : Int32) + (2 : Int32))), iv (1 : Int32), iv (0 : Int32), rv b112, .unset, .unset, .unset, .unset, .unset, .unset, .unset] [(.int ((p1 &&& (255 : Int32))).toUInt32.toUInt16.toUInt32.toInt32), (.int (0 : Int32)), (.ref b126), (.ref b126), (.ref b123), (.ref b123)])) rfl rfl (hb hby at_101)
    have N131 := Fr.snoc X131 N122 ge_b126
    have Z131 : n0 ≤ h131.size := Nat.le_trans Z126 (Nat.le_of_eq W131.size.symm)
    have K131 : Keep h0 h131 [] := K126.wr W131 (Or.inr sz_b126)
    have V131 : Arv Z h131 b126 k126 .char (2 : Int32) [(.int (nar .char ((p1 &&& (255 : Int32))).toUInt32.toUInt16.toUInt32.toInt32)), (.int (0 : Int32))] (.int (0 : Int32)) := Arv.set Ar130 qk130 Sz130 Ng130 Hs130 Gs130 (fits_nar_char _) W131 0 rfl (Nat.le_of_ble_eq_true rfl)
    obtain ⟨cl132, Ar132, qk132, Sz132, Ng132, Hs132, Gs132⟩ := id V131
    have hin132 : ¬ ((1 : Int32) < 0 ∨ cl132.slots.size ≤ ((1 : Int32)).toNatClampNeg) := inb_of Sz132 ⟨by decide, by decide⟩
    obtain ⟨T133, h133, X133, e133, W133, st133⟩ := stC X131 hx hZ e131 Ar132 (j := (1 : Int32)) hin132 (g := (mkF m 106 #[iv p0, iv p1, iv p2, iv p3, iv (((1 : Int32) + (2 : Int32))), iv (1 : Int32), iv (0 : Int32), rv b112, .unset, .unset, .unset, .unset, .unset, .unset, .unset] [(.int (98 : Int32)), (.int (1 : Int32)), (.ref b126), (.ref b126), (.ref b123), (.ref b123)])) rfl rfl (hb hby at_106)
    have N133 := Fr.snoc X133 N131 ge_b126
    have Z133 : n0 ≤ h133.size := Nat.le_trans Z131 (Nat.le_of_eq W133.size.symm)
    have K133 : Keep h0 h133 [] := K131.wr W133 (Or.inr sz_b126)
    have V133 : Arv Z h133 b126 k126 .char (2 : Int32) [(.int (nar .char ((p1 &&& (255 : Int32))).toUInt32.toUInt16.toUInt32.toInt32)), (.int (nar .char (98 : Int32)))] (.int (0 : Int32)) := Arv.set Ar132 qk132 Sz132 Ng132 Hs132 Gs132 (fits_nar_char _) W133 1 rfl (Nat.le_of_ble_eq_true rfl)
    have f134 := (((A123.ext E126).wr W131).wr W133)
    have f135 := (((F123_value.ext E126).other W131 (Or.inl ne_b123_b126)).other W133 (Or.inl ne_b123_b126))
    have f136 := (((F123_coder.ext E126).other W131 (Or.inl ne_b123_b126)).other W133 (Or.inl ne_b123_b126))
    have f137 := (((((own_stak f121 K122 (allS (own_exns f118) all0)).ext E123).ext E126).wr W131).wr W133)
    obtain ⟨_, T138, Lc138, X138, hQ138, st138⟩ := own_special (W := 1) (y := mN4) X133 hx hZ rfl hown (hw _ (List.mem_of_getElem? (i := 5) rfl)) (hw _ (List.mem_of_getElem? (i := 6) rfl)) (hw _ (List.mem_of_getElem? (i := 7) rfl)) (hw _ (List.mem_of_getElem? (i := 3) rfl)) (by decide) (rmSi2_2 l Z av0 hw [] b123 b126 k126 wC (nar .char ((p1 &&& (255 : Int32))).toUInt32.toUInt16.toUInt32.toInt32) (nar .char (98 : Int32)) h133 n0 Z133 f134 f135 f136 ge_b123 V133 f137 hw0 (own_ch p1) (by decide)) (by decide) (by decide) (g := (mkF m 107 #[iv p0, iv p1, iv p2, iv p3, iv (((1 : Int32) + (2 : Int32))), iv (1 : Int32), iv (0 : Int32), rv b112, .unset, .unset, .unset, .unset, .unset, .unset, .unset] [(.ref b126), (.ref b123), (.ref b123)])) rfl (by rw [hml]; rfl) (a := b123) (argsL := [(.ref b126)]) (rest := [(.ref b123)]) (lenOf pd__C_V rfl) rfl (by show 2 * 0 + _ ≤ _; exact Nat.le_of_eq rfl) (hb hby at_107) rfl e133 (by decide : 5 + 1 ≤ _) (by decide : 14 + 2 ≤ _)
    obtain ⟨rfl, N138q, K138, FC138, b138, kb138, FV138, V138, gb138⟩ := hQ138
    have N138 := Fr.app N133 N138q
    have e138 : T138.heap = T138.heap := rfl
    have f139 := (((f127.ext E126).wr W131).wr W133)
    have ne_b112_b138 : b112 ≠ b138 := Nat.ne_of_lt (Nat.lt_of_lt_of_le f139.lt gb138)
    have f140 := (((f128.ext E126).other W131 ne_b113_b126).other W133 ne_b113_b126)
    have ne_b113_b138 : b113 ≠ b138 := Nat.ne_of_lt (Nat.lt_of_lt_of_le f140.lt gb138)
    have f141 := (((f129.ext E126).other W131 ne_b122_b126).other W133 ne_b122_b126)
    have ne_b122_b138 : b122 ≠ b138 := Nat.ne_of_lt (Nat.lt_of_lt_of_le f141.lt gb138)
    have ne_b123_b138 : b123 ≠ b138 := Nat.ne_of_lt (Nat.lt_of_lt_of_le f134.lt gb138)
    have ne_b126_b138 : b126 ≠ b138 := Nat.ne_of_lt (Nat.lt_of_lt_of_le V133.lt gb138)
    have ge_b138 : n0 ≤ b138 := Nat.le_trans Z133 gb138
    have sz_b138 : h0.size ≤ b138 := Nat.le_trans K133.1 gb138
    have Zk138 : n0 ≤ T138.heap.size := Nat.le_trans Z133 K138.1
    have Kk138 : Keep h0 T138.heap [] := K133.trans K138 (allS (Or.inr sz_b123) all0)
    obtain ⟨T142, h142, X142, e142, E142, A142, D142, -, st142⟩ := newO X138 hx hZ hown (hw _ (List.mem_of_getElem? (i := 1) rfl)) (hw _ (List.mem_of_getElem? (i := 2) rfl)) (hw _ (List.mem_of_getElem? (i := 3) rfl)) e138 (g := (mkF m 112 #[iv p0, iv p1, iv p2, iv p3, iv (((1 : Int32) + (2 : Int32))), iv (1 : Int32), iv (0 : Int32), rv b112, rv b123, .unset, .unset, .unset, .unset, .unset, .unset] [])) rfl (hb hby at_112) (by decide) (by decide)
    obtain ⟨b142, g142⟩ : ∃ z, z = T138.heap.size := ⟨_, rfl⟩
    rw [← g142] at A142 D142 st142
    have f143 := (f139.keep K138)
    have ne_b112_b142 : b112 ≠ b142 := Nat.ne_of_lt (Nat.lt_of_lt_of_le f143.lt (Nat.le_of_eq g142.symm))
    have f144 := (f140.keep K138 (ninS ne_b113_b123 nin0))
    have ne_b113_b142 : b113 ≠ b142 := Nat.ne_of_lt (Nat.lt_of_lt_of_le f144.lt (Nat.le_of_eq g142.symm))
    have f145 := (f141.keep K138 (ninS ne_b122_b123 nin0))
    have ne_b122_b142 : b122 ≠ b142 := Nat.ne_of_lt (Nat.lt_of_lt_of_le f145.lt (Nat.le_of_eq g142.symm))
    have f146 := (f134.keep K138)
    have ne_b123_b142 : b123 ≠ b142 := Nat.ne_of_lt (Nat.lt_of_lt_of_le f146.lt (Nat.le_of_eq g142.symm))
    have f147 := (V133.keep K138 (ninS (Ne.symm ne_b123_b126) nin0))
    have ne_b126_b142 : b126 ≠ b142 := Nat.ne_of_lt (Nat.lt_of_lt_of_le f147.lt (Nat.le_of_eq g142.symm))
    have ne_b138_b142 : b138 ≠ b142 := Nat.ne_of_lt (Nat.lt_of_lt_of_le V138.lt (Nat.le_of_eq g142.symm))
    have ge_b142 : n0 ≤ b142 := Nat.le_trans Zk138 (Nat.le_of_eq g142.symm)
    have sz_b142 : h0.size ≤ b142 := Nat.le_trans Kk138.1 (Nat.le_of_eq g142.symm)
    have Z142 : n0 ≤ h142.size := Nat.le_trans Zk138 E142.1
    have K142 : Keep h0 h142 [] := Kk138.ext E142
    have F142_coder : Fld Z h142 b142 "java/lang/String" "coder" "B" (.int (0 : Int32)) := D142 (Or.inr (hw _ (List.mem_of_getElem? (i := 28) rfl))) (ty := .byte) (by decide)
    have F142_value : Fld Z h142 b142 "java/lang/String" "value" "[B" .null := D142 (Or.inr (hw _ (List.mem_of_getElem? (i := 30) rfl))) (ty := (.array .byte)) (by decide)
    obtain ⟨T148, h148, k148, X148, e148, E148, A148, st148⟩ := newP X142 hx hZ (hw _ (List.mem_of_getElem? (i := 4) rfl)) e142 (g := (mkF m 117 #[iv p0, iv p1, iv p2, iv p3, iv (((1 : Int32) + (2 : Int32))), iv (1 : Int32), iv (0 : Int32), rv b112, rv b123, .unset, .unset, .unset, .unset, .unset, .unset] [(.int (2 : Int32)), (.ref b142), (.ref b142)])) rfl (hb hby at_117) rfl (by decide) (cap := 2) (by decide) (by decide) (by decide) (by decide)
    obtain ⟨b148, g148⟩ : ∃ z, z = h142.size := ⟨_, rfl⟩
    rw [← g148] at A148 st148
    have f149 := (f143.ext E142)
    have ne_b112_b148 : b112 ≠ b148 := Nat.ne_of_lt (Nat.lt_of_lt_of_le f149.lt (Nat.le_of_eq g148.symm))
    have f150 := (f144.ext E142)
    have ne_b113_b148 : b113 ≠ b148 := Nat.ne_of_lt (Nat.lt_of_lt_of_le f150.lt (Nat.le_of_eq g148.symm))
    have f151 := (f145.ext E142)
    have ne_b122_b148 : b122 ≠ b148 := Nat.ne_of_lt (Nat.lt_of_lt_of_le f151.lt (Nat.le_of_eq g148.symm))
    have f152 := (f146.ext E142)
    have ne_b123_b148 : b123 ≠ b148 := Nat.ne_of_lt (Nat.lt_of_lt_of_le f152.lt (Nat.le_of_eq g148.symm))
    have f153 := (f147.ext E142)
    have ne_b126_b148 : b126 ≠ b148 := Nat.ne_of_lt (Nat.lt_of_lt_of_le f153.lt (Nat.le_of_eq g148.symm))
    have f154 := (V138.ext E142)
    have ne_b138_b148 : b138 ≠ b148 := Nat.ne_of_lt (Nat.lt_of_lt_of_le f154.lt (Nat.le_of_eq g148.symm))
    have ne_b142_b148 : b142 ≠ b148 := Nat.ne_of_lt (Nat.lt_of_lt_of_le A142.lt (Nat.le_of_eq g148.symm))
    have ge_b148 : n0 ≤ b148 := Nat.le_trans Z142 (Nat.le_of_eq g148.symm)
    have sz_b148 : h0.size ≤ b148 := Nat.le_trans K142.1 (Nat.le_of_eq g148.symm)
    have Z148 : n0 ≤ h148.size := Nat.le_trans Z142 E148.1
    have K148 : Keep h0 h148 [] := K142.ext E148
    have V148 : Arv Z h148 b148 k148 .char (2 : Int32) [(.int (0 : Int32)), (.int (0 : Int32))] (.int (0 : Int32)) := (Arv.new A148 (by decide)).pad (pad_rep [] (.int (0 : Int32)) 2)
    obtain ⟨cl155, Ar155, qk155, Sz155, Ng155, Hs155, Gs155⟩ := id V148
    have hin155 : ¬ ((0 : Int32) < 0 ∨ cl155.slots.size ≤ ((0 : Int32)).toNatClampNeg) := inb_of Sz155 ⟨by decide, by decide⟩
    obtain ⟨T156, h156, X156, e156, W156, st156⟩ := stC X148 hx hZ e148 Ar155 (j := (0 : Int32)) hin155 (g := (mkF m 127 #[iv p0, iv p1, iv p2, iv p3, iv (((1 : Int32) + (2 : Int32))), iv (1 : Int32), iv (0 : Int32), rv b112, rv b123, .unset, .unset, .unset, .unset, .unset, .unset] [(.int ((p2 &&& (255 : Int32))).toUInt32.toUInt16.toUInt32.toInt32), (.int (0 : Int32)), (.ref b148), (.ref b148), (.ref b142), (.ref b142)])) rfl rfl (hb hby at_127)
    have N156 := Fr.snoc X156 N138 ge_b148
    have Z156 : n0 ≤ h156.size := Nat.le_trans Z148 (Nat.le_of_eq W156.size.symm)
    have K156 : Keep h0 h156 [] := K148.wr W156 (Or.inr sz_b148)
    have V156 : Arv Z h156 b148 k148 .char (2 : Int32) [(.int (nar .char ((p2 &&& (255 : Int32))).toUInt32.toUInt16.toUInt32.toInt32)), (.int (0 : Int32))] (.int (0 : Int32)) := Arv.set Ar155 qk155 Sz155 Ng155 Hs155 Gs155 (fits_nar_char _) W156 0 rfl (Nat.le_of_ble_eq_true rfl)
    obtain ⟨cl157, Ar157, qk157, Sz157, Ng157, Hs157, Gs157⟩ := id V156
    have hin157 : ¬ ((1 : Int32) < 0 ∨ cl157.slots.size ≤ ((1 : Int32)).toNatClampNeg) := inb_of Sz157 ⟨by decide, by decide⟩
    obtain ⟨T158, h158, X158, e158, W158, st158⟩ := stC X156 hx hZ e156 Ar157 (j := (1 : Int32)) hin157 (g := (mkF m 132 #[iv p0, iv p1, iv p2, iv p3, iv (((1 : Int32) + (2 : Int32))), iv (1 : Int32), iv (0 : Int32), rv b112, rv b123, .unset, .unset, .unset, .unset, .unset, .unset] [(.int (99 : Int32)), (.int (1 : Int32)), (.ref b148), (.ref b148), (.ref b142), (.ref b142)])) rfl rfl (hb hby at_132)
    have N158 := Fr.snoc X158 N156 ge_b148
    have Z158 : n0 ≤ h158.size := Nat.le_trans Z156 (Nat.le_of_eq W158.size.symm)
    have K158 : Keep h0 h158 [] := K156.wr W158 (Or.inr sz_b148)
    have V158 : Arv Z h158 b148 k148 .char (2 : Int32) [(.int (nar .char ((p2 &&& (255 : Int32))).toUInt32.toUInt16.toUInt32.toInt32)), (.int (nar .char (99 : Int32)))] (.int (0 : Int32)) := Arv.set Ar157 qk157 Sz157 Ng157 Hs157 Gs157 (fits_nar_char _) W158 1 rfl (Nat.le_of_ble_eq_true rfl)
    have f159 := (((A142.ext E148).wr W156).wr W158)
    have f160 := (((F142_value.ext E148).other W156 (Or.inl ne_b142_b148)).other W158 (Or.inl ne_b142_b148))
    have f161 := (((F142_coder.ext E148).other W156 (Or.inl ne_b142_b148)).other W158 (Or.inl ne_b142_b148))
    have f162 := (((((own_stak f137 K138 (allS (own_exns f134) all0)).ext E142).ext E148).wr W156).wr W158)
    obtain ⟨_, T163, Lc163, X163, hQ163, st163⟩ := own_special (W := 1) (y := mN4) X158 hx hZ rfl hown (hw _ (List.mem_of_getElem? (i := 5) rfl)) (hw _ (List.mem_of_getElem? (i := 6) rfl)) (hw _ (List.mem_of_getElem? (i := 7) rfl)) (hw _ (List.mem_of_getElem? (i := 3) rfl)) (by decide) (rmSi2_2 l Z av0 hw [] b142 b148 k148 wC (nar .char ((p2 &&& (255 : Int32))).toUInt32.toUInt16.toUInt32.toInt32) (nar .char (99 : Int32)) h158 n0 Z158 f159 f160 f161 ge_b142 V158 f162 hw0 (own_ch p2) (by decide)) (by decide) (by decide) (g := (mkF m 133 #[iv p0, iv p1, iv p2, iv p3, iv (((1 : Int32) + (2 : Int32))), iv (1 : Int32), iv (0 : Int32), rv b112, rv b123, .unset, .unset, .unset, .unset, .unset, .unset] [(.ref b148), (.ref b142), (.ref b142)])) rfl (by rw [hml]; rfl) (a := b142) (argsL := [(.ref b148)]) (rest := [(.ref b142)]) (lenOf pd__C_V rfl) rfl (by show 2 * 0 + _ ≤ _; exact Nat.le_of_eq rfl) (hb hby at_133) rfl e158 (by decide : 8 + 1 ≤ _) (by decide : 22 + 2 ≤ _)
    obtain ⟨rfl, N163q, K163, FC163, b163, kb163, FV163, V163, gb163⟩ := hQ163
    have N163 := Fr.app N158 N163q
    have e163 : T163.heap = T163.heap := rfl
    have f164 := (((f149.ext E148).wr W156).wr W158)
    have ne_b112_b163 : b112 ≠ b163 := Nat.ne_of_lt (Nat.lt_of_lt_of_le f164.lt gb163)
    have f165 := (((f150.ext E148).other W156 ne_b113_b148).other W158 ne_b113_b148)
    have ne_b113_b163 : b113 ≠ b163 := Nat.ne_of_lt (Nat.lt_of_lt_of_le f165.lt gb163)
    have f166 := (((f151.ext E148).other W156 ne_b122_b148).other W158 ne_b122_b148)
    have ne_b122_b163 : b122 ≠ b163 := Nat.ne_of_lt (Nat.lt_of_lt_of_le f166.lt gb163)
    have f167 := (((f152.ext E148).wr W156).wr W158)
    have ne_b123_b163 : b123 ≠ b163 := Nat.ne_of_lt (Nat.lt_of_lt_of_le f167.lt gb163)
    have f168 := (((f153.ext E148).other W156 ne_b126_b148).other W158 ne_b126_b148)
    have ne_b126_b163 : b126 ≠ b163 := Nat.ne_of_lt (Nat.lt_of_lt_of_le f168.lt gb163)
    have f169 := (((f154.ext E148).other W156 ne_b138_b148).other W158 ne_b138_b148)
    have ne_b138_b163 : b138 ≠ b163 := Nat.ne_of_lt (Nat.lt_of_lt_of_le f169.lt gb163)
    have ne_b142_b163 : b142 ≠ b163 := Nat.ne_of_lt (Nat.lt_of_lt_of_le f159.lt gb163)
    have ne_b148_b163 : b148 ≠ b163 := Nat.ne_of_lt (Nat.lt_of_lt_of_le V158.lt gb163)
    have ge_b163 : n0 ≤ b163 := Nat.le_trans Z158 gb163
    have sz_b163 : h0.size ≤ b163 := Nat.le_trans K158.1 gb163
    have Zk163 : n0 ≤ T163.heap.size := Nat.le_trans Z158 K163.1
    have Kk163 : Keep h0 T163.heap [] := K158.trans K163 (allS (Or.inr sz_b142) all0)
    obtain ⟨T170, h170, k170, X170, e170, E170, A170, O170, st170⟩ := newR X163 hx hZ hown (hw _ (List.mem_of_getElem? (i := 1) rfl)) (hw _ (List.mem_of_getElem? (i := 31) rfl)) e163 (g := (mkF m 140 #[iv p0, iv p1, iv p2, iv p3, iv (((1 : Int32) + (2 : Int32))), iv (1 : Int32), iv (0 : Int32), rv b112, rv b123, rv b142, .unset, .unset, .unset, .unset, .unset] [(.int ((1 : Int32) + (2 : Int32)))])) rfl (hb hby at_140) rfl (by decide) (cap := 3) (by decide) (by decide) (by decide) (by decide)
    obtain ⟨b170, g170⟩ : ∃ z, z = T163.heap.size := ⟨_, rfl⟩
    rw [← g170] at A170 st170
    have f171 := (f164.keep K163)
    have ne_b112_b170 : b112 ≠ b170 := Nat.ne_of_lt (Nat.lt_of_lt_of_le f171.lt (Nat.le_of_eq g170.symm))
    have f172 := (f165.keep K163 (ninS ne_b113_b142 nin0))
    have ne_b113_b170 : b113 ≠ b170 := Nat.ne_of_lt (Nat.lt_of_lt_of_le f172.lt (Nat.le_of_eq g170.symm))
    have f173 := (f166.keep K163 (ninS ne_b122_b142 nin0))
    have ne_b122_b170 : b122 ≠ b170 := Nat.ne_of_lt (Nat.lt_of_lt_of_le f173.lt (Nat.le_of_eq g170.symm))
    have f174 := (f167.keep K163)
    have ne_b123_b170 : b123 ≠ b170 := Nat.ne_of_lt (Nat.lt_of_lt_of_le f174.lt (Nat.le_of_eq g170.symm))
    have f175 := (f168.keep K163 (ninS ne_b126_b142 nin0))
    have ne_b126_b170 : b126 ≠ b170 := Nat.ne_of_lt (Nat.lt_of_lt_of_le f175.lt (Nat.le_of_eq g170.symm))
    have f176 := (f169.keep K163 (ninS ne_b138_b142 nin0))
    have ne_b138_b170 : b138 ≠ b170 := Nat.ne_of_lt (Nat.lt_of_lt_of_le f176.lt (Nat.le_of_eq g170.symm))
    have f177 := (f159.keep K163)
    have ne_b142_b170 : b142 ≠ b170 := Nat.ne_of_lt (Nat.lt_of_lt_of_le f177.lt (Nat.le_of_eq g170.symm))
    have f178 := (V158.keep K163 (ninS (Ne.symm ne_b142_b148) nin0))
    have ne_b148_b170 : b148 ≠ b170 := Nat.ne_of_lt (Nat.lt_of_lt_of_le f178.lt (Nat.le_of_eq g170.symm))
    have ne_b163_b170 : b163 ≠ b170 := Nat.ne_of_lt (Nat.lt_of_lt_of_le V163.lt (Nat.le_of_eq g170.symm))
    have ge_b170 : n0 ≤ b170 := Nat.le_trans Zk163 (Nat.le_of_eq g170.symm)
    have sz_b170 : h0.size ≤ b170 := Nat.le_trans Kk163.1 (Nat.le_of_eq g170.symm)
    have Z170 : n0 ≤ h170.size := Nat.le_trans Zk163 E170.1
    have K170 : Keep h0 h170 [] := Kk163.ext E170
    have V170 : Arv Z h170 b170 k170 (.object "java/lang/String") ((1 : Int32) + (2 : Int32)) [.null, .null, .null] .null := (Arv.new A170 (by decide)).pad (pad_rep [] .null 3)
    obtain ⟨cl179, Ar179, qk179, Sz179, Ng179, Hs179, Gs179⟩ := id V170
    have hin179 : ¬ ((0 : Int32) < 0 ∨ cl179.slots.size ≤ ((0 : Int32)).toNatClampNeg) := inb_of Sz179 ⟨by decide, by decide⟩
    have f180 := (f171.ext E170)
    obtain ⟨T181, h181, X181, e181, W181, st181⟩ := stR X170 hx hZ e170 Ar179 (j := (0 : Int32)) hin179 rfl (Sto.ofV Ar179 qk179 O170 (Ins.self f180)) (g := (mkF m 150 #[iv p0, iv p1, iv p2, iv p3, iv (((1 : Int32) + (2 : Int32))), iv (1 : Int32), iv (0 : Int32), rv b112, rv b123, rv b142, rv b170, .unset, .unset, .unset, .unset] [(.ref b112), (.int (0 : Int32)), (.ref b170)])) rfl rfl (hb hby at_150)
    have N181 := Fr.snoc X181 N163 ge_b170
    have Z181 : n0 ≤ h181.size := Nat.le_trans Z170 (Nat.le_of_eq W181.size.symm)
    have K181 : Keep h0 h181 [] := K170.wr W181 (Or.inr sz_b170)
    have V181 : Arv Z h181 b170 k170 (.object "java/lang/String") ((1 : Int32) + (2 : Int32)) [(.ref b112), .null, .null] .null := Arv.set Ar179 qk179 Sz179 Ng179 Hs179 Gs179 rfl W181 0 rfl (Nat.le_of_ble_eq_true rfl)
    obtain ⟨cl182, Ar182, qk182, Sz182, Ng182, Hs182, Gs182⟩ := id V181
    have hin182 : ¬ ((1 : Int32) < 0 ∨ cl182.slots.size ≤ ((1 : Int32)).toNatClampNeg) := inb_of Sz182 ⟨by decide, by decide⟩
    have f183 := ((f174.ext E170).wr W181)
    obtain ⟨T184, h184, X184, e184, W184, st184⟩ := stR X181 hx hZ e181 Ar182 (j := (1 : Int32)) hin182 rfl (Sto.ofV Ar182 qk182 O170 (Ins.self f183)) (g := (mkF m 162 #[iv p0, iv p1, iv p2, iv p3, iv (((1 : Int32) + (2 : Int32))), iv (1 : Int32), iv (0 : Int32), rv b112, rv b123, rv b142, rv b170, .unset, .unset, .unset, .unset] [(.ref b123), (.int (1 : Int32)), (.ref b170)])) rfl rfl (hb hby at_162)
    have N184 := Fr.snoc X184 N181 ge_b170
    have Z184 : n0 ≤ h184.size := Nat.le_trans Z181 (Nat.le_of_eq W184.size.symm)
    have K184 : Keep h0 h184 [] := K181.wr W184 (Or.inr sz_b170)
    have V184 : Arv Z h184 b170 k170 (.object "java/lang/String") ((1 : Int32) + (2 : Int32)) [(.ref b112), (.ref b123), .null] .null := Arv.set Ar182 qk182 Sz182 Ng182 Hs182 Gs182 rfl W184 1 rfl (Nat.le_of_ble_eq_true rfl)
    obtain ⟨cl185, Ar185, qk185, Sz185, Ng185, Hs185, Gs185⟩ := id V184
    have hin185 : ¬ ((2 : Int32) < 0 ∨ cl185.slots.size ≤ ((2 : Int32)).toNatClampNeg) := inb_of Sz185 ⟨by decide, by decide⟩
    have f186 := (((f177.ext E170).wr W181).wr W184)
    obtain ⟨T187, h187, X187, e187, W187, st187⟩ := stR X184 hx hZ e184 Ar185 (j := (2 : Int32)) hin185 rfl (Sto.ofV Ar185 qk185 O170 (Ins.self f186)) (g := (mkF m 174 #[iv p0, iv p1, iv p2, iv p3, iv (((1 : Int32) + (2 : Int32))), iv (1 : Int32), iv (0 : Int32), rv b112, rv b123, rv b142, rv b170, .unset, .unset, .unset, .unset] [(.ref b142), (.int (2 : Int32)), (.ref b170)])) rfl rfl (hb hby at_174)
    have N187 := Fr.snoc X187 N184 ge_b170
    have Z187 : n0 ≤ h187.size := Nat.le_trans Z184 (Nat.le_of_eq W187.size.symm)
    have K187 : Keep h0 h187 [] := K184.wr W187 (Or.inr sz_b170)
    have V187 : Arv Z h187 b170 k170 (.object "java/lang/String") ((1 : Int32) + (2 : Int32)) [(.ref b112), (.ref b123), (.ref b142)] .null := Arv.set Ar185 qk185 Sz185 Ng185 Hs185 Gs185 rfl W187 2 rfl (Nat.le_of_ble_eq_true rfl)
    obtain ⟨T188, h188, X188, e188, E188, A188, D188, -, st188⟩ := newO X187 hx hZ hown (hw _ (List.mem_of_getElem? (i := 32) rfl)) (hw _ (List.mem_of_getElem? (i := 33) rfl)) (hw _ (List.mem_of_getElem? (i := 34) rfl)) e187 (g := (mkF m 175 #[iv p0, iv p1, iv p2, iv p3, iv (((1 : Int32) + (2 : Int32))), iv (1 : Int32), iv (0 : Int32), rv b112, rv b123, rv b142, rv b170, .unset, .unset, .unset, .unset] [])) rfl (hb hby at_175) (by decide) (by decide)
    obtain ⟨b188, g188⟩ : ∃ z, z = h187.size := ⟨_, rfl⟩
    rw [← g188] at A188 D188 st188
    have f189 := (((f180.wr W181).wr W184).wr W187)
    have ne_b112_b188 : b112 ≠ b188 := Nat.ne_of_lt (Nat.lt_of_lt_of_le f189.lt (Nat.le_of_eq g188.symm))
    have f190 := ((((f172.ext E170).other W181 ne_b113_b170).other W184 ne_b113_b170).other W187 ne_b113_b170)
    have ne_b113_b188 : b113 ≠ b188 := Nat.ne_of_lt (Nat.lt_of_lt_of_le f190.lt (Nat.le_of_eq g188.symm))
    have f191 := ((((f173.ext E170).other W181 ne_b122_b170).other W184 ne_b122_b170).other W187 ne_b122_b170)
    have ne_b122_b188 : b122 ≠ b188 := Nat.ne_of_lt (Nat.lt_of_lt_of_le f191.lt (Nat.le_of_eq g188.symm))
    have f192 := ((f183.wr W184).wr W187)
    have ne_b123_b188 : b123 ≠ b188 := Nat.ne_of_lt (Nat.lt_of_lt_of_le f192.lt (Nat.le_of_eq g188.symm))
    have f193 := ((((f175.ext E170).other W181 ne_b126_b170).other W184 ne_b126_b170).other W187 ne_b126_b170)
    have ne_b126_b188 : b126 ≠ b188 := Nat.ne_of_lt (Nat.lt_of_lt_of_le f193.lt (Nat.le_of_eq g188.symm))
    have f194 := ((((f176.ext E170).other W181 ne_b138_b170).other W184 ne_b138_b170).other W187 ne_b138_b170)
    have ne_b138_b188 : b138 ≠ b188 := Nat.ne_of_lt (Nat.lt_of_lt_of_le f194.lt (Nat.le_of_eq g188.symm))
    have f195 := (f186.wr W187)
    have ne_b142_b188 : b142 ≠ b188 := Nat.ne_of_lt (Nat.lt_of_lt_of_le f195.lt (Nat.le_of_eq g188.symm))
    have f196 := ((((f178.ext E170).other W181 ne_b148_b170).other W184 ne_b148_b170).other W187 ne_b148_b170)
    have ne_b148_b188 : b148 ≠ b188 := Nat.ne_of_lt (Nat.lt_of_lt_of_le f196.lt (Nat.le_of_eq g188.symm))
    have f197 := ((((V163.ext E170).other W181 ne_b163_b170).other W184 ne_b163_b170).other W187 ne_b163_b170)
    have ne_b163_b188 : b163 ≠ b188 := Nat.ne_of_lt (Nat.lt_of_lt_of_le f197.lt (Nat.le_of_eq g188.symm))
    have ne_b170_b188 : b170 ≠ b188 := Nat.ne_of_lt (Nat.lt_of_lt_of_le V187.lt (Nat.le_of_eq g188.symm))
    have ge_b188 : n0 ≤ b188 := Nat.le_trans Z187 (Nat.le_of_eq g188.symm)
    have sz_b188 : h0.size ≤ b188 := Nat.le_trans K187.1 (Nat.le_of_eq g188.symm)
    have Z188 : n0 ≤ h188.size := Nat.le_trans Z187 E188.1
    have K188 : Keep h0 h188 [] := K187.ext E188
    have F188_arguments : Fld Z h188 b188 "com/example/steady_courier/steadycourier/OptionReader" "arguments" "[Ljava/lang/String;" .null := D188 (Or.inr (hw _ (List.mem_of_getElem? (i := 40) rfl))) (ty := (.array (.object "java/lang/String"))) (by decide)
    have F188_next : Fld Z h188 b188 "com/example/steady_courier/steadycourier/OptionReader" "next" "I" (.int (0 : Int32)) := D188 (Or.inl (hw _ (List.mem_of_getElem? (i := 47) rfl))) (ty := .int) (by decide)
    obtain ⟨_, T198, Lc198, X198, hQ198, st198⟩ := own_special (W := 1) (y := mN5) X188 hx hZ rfl hown (hw _ (List.mem_of_getElem? (i := 35) rfl)) (hw _ (List.mem_of_getElem? (i := 36) rfl)) (hw _ (List.mem_of_getElem? (i := 37) rfl)) (hw _ (List.mem_of_getElem? (i := 34) rfl)) (by decide) (rmInit l Z av0 hw [] b188 b170 h188 n0 Z188 A188 F188_arguments F188_next ge_b188) (by decide) (by decide) (g := (mkF m 181 #[iv p0, iv p1, iv p2, iv p3, iv (((1 : Int32) + (2 : Int32))), iv (1 : Int32), iv (0 : Int32), rv b112, rv b123, rv b142, rv b170, .unset, .unset, .unset, .unset] [(.ref b170), (.ref b188), (.ref b188)])) rfl (by rw [hml]; rfl) (a := b188) (argsL := [(.ref b170)]) (rest := [(.ref b188)]) (lenOf pd__Ljava_lang_String_V rfl) rfl (by show 2 * 0 + _ ≤ _; exact Nat.le_of_eq rfl) (hb hby at_181) rfl e188 (by decide : 11 + 0 ≤ _) (by decide : 29 + 0 ≤ _)
    obtain ⟨rfl, N198q, K198, FA198, FN198⟩ := hQ198
    have N198 := Fr.app N187 N198q
    have e198 : T198.heap = T198.heap := rfl
    have Zk198 : n0 ≤ T198.heap.size := Nat.le_trans Z188 K198.1
    have Kk198 : Keep h0 T198.heap [] := K188.trans K198 (allS (Or.inr sz_b188) all0)
    have f199 := ((V187.ext E188).keep K198 (ninS ne_b170_b188 nin0))
    have f201 := (A188.keep K198)
    obtain ⟨_, T200, Lc200, X200, hQ200, st200⟩ := own_virtual (W := 0) (y := mN6) (z := mN6) X198 hx hZ hown (hw _ (List.mem_of_getElem? (i := 41) rfl)) (hw _ (List.mem_of_getElem? (i := 42) rfl)) (notFace_of_selects (args := #[]) (mvT hZ (hw _ (List.mem_of_getElem? (i := 44) rfl)))) (hw _ (List.mem_of_getElem? (i := 44) rfl)) (hw _ (List.mem_of_getElem? (i := 43) rfl)) (hw _ (List.mem_of_getElem? (i := 45) rfl)) (hw _ (List.mem_of_getElem? (i := 34) rfl)) (by decide) (rmHas l Z av0 hw [] b188 b170 k170 ((1 : Int32) + (2 : Int32)) [(.ref b112), (.ref b123), (.ref b142)] (0 : Int32) T198.heap n0 Zk198 FA198 FN198 f199) (by decide) (by decide) f201 (g := (mkF m 188 #[iv p0, iv p1, iv p2, iv p3, iv (((1 : Int32) + (2 : Int32))), iv (1 : Int32), iv (0 : Int32), rv b112, rv b123, rv b142, rv b170, rv b188, .unset, .unset, .unset] [(.ref b188)])) rfl (by rw [hml]; rfl) (argsL := []) (rest := []) (lenOf pd__Z rfl) rfl (by show 2 * 0 + _ ≤ _; exact Nat.le_of_eq rfl) (hb hby at_188) rfl e198 (by decide : 11 + 0 ≤ _) (by decide : 29 + 0 ≤ _)
    obtain ⟨rfl, N200q, hh200⟩ := hQ200
    have N200 := Fr.app N198 N200q
    have e200 : T200.heap = T198.heap := hh200
    obtain ⟨_, T202, Lc202, X202, hQ202, st202⟩ := own_virtual (W := 0) (y := mN7) (z := mN7) X200 hx hZ hown (hw _ (List.mem_of_getElem? (i := 48) rfl)) (hw _ (List.mem_of_getElem? (i := 49) rfl)) (notFace_of_selects (args := #[]) (mvT hZ (hw _ (List.mem_of_getElem? (i := 51) rfl)))) (hw _ (List.mem_of_getElem? (i := 51) rfl)) (hw _ (List.mem_of_getElem? (i := 50) rfl)) (hw _ (List.mem_of_getElem? (i := 52) rfl)) (hw _ (List.mem_of_getElem? (i := 34) rfl)) (by decide) (rmOpt l Z av0 hw [] b188 b170 k170 ((1 : Int32) + (2 : Int32)) [(.ref b112), (.ref b123), (.ref b142)] (0 : Int32) b112 T198.heap n0 Zk198 FA198 FN198 f199 f201 ge_b188 (Ne.symm ne_b170_b188) (by decide) rfl) (by decide) (by decide) f201 (g := (mkF m 198 #[iv p0, iv p1, iv p2, iv p3, iv (((1 : Int32) + (2 : Int32))), iv (1 : Int32), iv (0 : Int32), rv b112, rv b123, rv b142, rv b170, rv b188, .unset, .unset, .unset] [(.ref b188)])) rfl (by rw [hml]; rfl) (argsL := []) (rest := []) (lenOf pd__Ljava_lang_String_ rfl) rfl (by show 2 * 0 + _ ≤ _; exact Nat.le_of_eq rfl) (hb hby at_198) rfl e200 (by decide : 11 + 0 ≤ _) (by decide : 29 + 0 ≤ _)
    obtain ⟨rfl, N202q, K202, FN202, FA202⟩ := hQ202
    have N202 := Fr.app N200 N202q
    have e202 : T202.heap = T202.heap := rfl
    have Zk202 : n0 ≤ T202.heap.size := Nat.le_trans Zk198 K202.1
    have Kk202 : Keep h0 T202.heap [] := Kk198.trans K202 (allS (Or.inr sz_b188) all0)
    have f204 := (((f189.ext E188).keep K198).keep K202)
    obtain ⟨_, T203, Lc203, X203, hQ203, st203⟩ := own_virtual (W := 0) (y := mN9) (z := mN9) X202 hx hZ hown (hw _ (List.mem_of_getElem? (i := 53) rfl)) (hw _ (List.mem_of_getElem? (i := 54) rfl)) (notFace_of_selects (args := #[]) (mvT hZ (hw _ (List.mem_of_getElem? (i := 56) rfl)))) (hw _ (List.mem_of_getElem? (i := 56) rfl)) (hw _ (List.mem_of_getElem? (i := 55) rfl)) (hw _ (List.mem_of_getElem? (i := 57) rfl)) (hw _ (List.mem_of_getElem? (i := 3) rfl)) (by decide) (rmSame l Z av0 hw [] b112 T202.heap n0 Zk202 ) (by decide) (by decide) f204 (g := (mkF m 207 #[iv p0, iv p1, iv p2, iv p3, iv (((1 : Int32) + (2 : Int32))), iv (1 : Int32), iv (0 : Int32), rv b112, rv b123, rv b142, rv b170, rv b188, rv b112, .unset, .unset] [(.ref b112), (.ref b112)])) rfl (by rw [hml]; rfl) (argsL := [(.ref b112)]) (rest := []) (lenOf pd__Ljava_lang_Object_Z rfl) rfl (by show 2 * 0 + _ ≤ _; exact Nat.le_of_eq rfl) (hb hby at_207) rfl e202 (by decide : 11 + 0 ≤ _) (by decide : 29 + 0 ≤ _)
    obtain ⟨rfl, N203q, hh203⟩ := hQ203
    have N203 := Fr.app N202 N203q
    have e203 : T203.heap = T202.heap := hh203
    have f205 := (f199.keep K202 (ninS ne_b170_b188 nin0))
    have f207 := (f201.keep K202)
    obtain ⟨_, T206, Lc206, X206, hQ206, st206⟩ := own_virtual (W := 0) (y := mN6) (z := mN6) X203 hx hZ hown (hw _ (List.mem_of_getElem? (i := 41) rfl)) (hw _ (List.mem_of_getElem? (i := 42) rfl)) (notFace_of_selects (args := #[]) (mvT hZ (hw _ (List.mem_of_getElem? (i := 44) rfl)))) (hw _ (List.mem_of_getElem? (i := 44) rfl)) (hw _ (List.mem_of_getElem? (i := 43) rfl)) (hw _ (List.mem_of_getElem? (i := 45) rfl)) (hw _ (List.mem_of_getElem? (i := 34) rfl)) (by decide) (rmHas l Z av0 hw [] b188 b170 k170 ((1 : Int32) + (2 : Int32)) [(.ref b112), (.ref b123), (.ref b142)] ((0 : Int32) + (1 : Int32)) T202.heap n0 Zk202 FA202 FN202 f205) (by decide) (by decide) f207 (g := (mkF m 217 #[iv p0, iv p1, iv p2, iv p3, iv (((1 : Int32) + (2 : Int32))), iv (1 : Int32), iv (0 : Int32), rv b112, rv b123, rv b142, rv b170, rv b188, rv b112, .unset, .unset] [(.ref b188)])) rfl (by rw [hml]; rfl) (argsL := []) (rest := []) (lenOf pd__Z rfl) rfl (by show 2 * 0 + _ ≤ _; exact Nat.le_of_eq rfl) (hb hby at_217) rfl e203 (by decide : 11 + 0 ≤ _) (by decide : 29 + 0 ≤ _)
    obtain ⟨rfl, N206q, hh206⟩ := hQ206
    have N206 := Fr.app N203 N206q
    have e206 : T206.heap = T202.heap := hh206
    have f208 := ((((((((((((FV138.ext E142).ext E148).other W156 (Or.inl ne_b123_b148)).other W158 (Or.inl ne_b123_b148)).keep K163 (ninS ne_b123_b142 nin0)).ext E170).other W181 (Or.inl ne_b123_b170)).other W184 (Or.inl ne_b123_b170)).other W187 (Or.inl ne_b123_b170)).ext E188).keep K198 (ninS ne_b123_b188 nin0)).keep K202 (ninS ne_b123_b188 nin0))
    have f209 := (((f194.ext E188).keep K198 (ninS ne_b138_b188 nin0)).keep K202 (ninS ne_b138_b188 nin0))
    have f210 := (((f192.ext E188).keep K198).keep K202)
    obtain ⟨_, T211, Lc211, X211, hQ211, st211⟩ := own_virtual (W := 0) (y := mN10) (z := mN10) X206 hx hZ hown (hw _ (List.mem_of_getElem? (i := 58) rfl)) (hw _ (List.mem_of_getElem? (i := 59) rfl)) (notFace_of_selects (args := #[]) (mvT hZ (hw _ (List.mem_of_getElem? (i := 61) rfl)))) (hw _ (List.mem_of_getElem? (i := 61) rfl)) (hw _ (List.mem_of_getElem? (i := 60) rfl)) (hw _ (List.mem_of_getElem? (i := 62) rfl)) (hw _ (List.mem_of_getElem? (i := 34) rfl)) (by decide) (rmVal l Z av0 hw [] b188 b170 k170 ((1 : Int32) + (2 : Int32)) [(.ref b112), (.ref b123), (.ref b142)] ((0 : Int32) + (1 : Int32)) b123 b112 b138 kb138 (2 : Int32) [(.int (nar .byte ((nar .char ((p1 &&& (255 : Int32))).toUInt32.toUInt16.toUInt32.toInt32)).toInt8.toInt32)), (.int (nar .byte ((nar .char (98 : Int32))).toInt8.toInt32))] T202.heap n0 Zk202 FA202 FN202 f205 f207 ge_b188 (Ne.symm ne_b170_b188) (by decide) rfl f210 f208 f209 (by decide) (Ne.symm ne_b123_b188) (Ne.symm ne_b138_b188) (by decide)) (by decide) (by decide) f207 (g := (mkF m 253 #[iv p0, iv p1, iv p2, iv p3, iv (((1 : Int32) + (2 : Int32))), iv (1 : Int32), iv (0 : Int32), rv b112, rv b123, rv b142, rv b170, rv b188, rv b112, .unset, .unset] [(.ref b112), (.ref b188)])) rfl (by rw [hml]; rfl) (argsL := [(.ref b112)]) (rest := []) (lenOf pd__Ljava_lang_String_Ljava_lang_String_ rfl) rfl (by show 2 * 0 + _ ≤ _; exact Nat.le_of_eq rfl) (hb hby at_253) rfl e206 (by decide : 11 + 0 ≤ _) (by decide : 29 + 0 ≤ _)
    obtain ⟨rfl, N211q, K211, FN211, FA211⟩ := hQ211
    have N211 := Fr.app N206 N211q
    have e211 : T211.heap = T211.heap := rfl
    have Zk211 : n0 ≤ T211.heap.size := Nat.le_trans Zk202 K211.1
    have Kk211 : Keep h0 T211.heap [] := Kk202.trans K211 (allS (Or.inr sz_b188) all0)
    have f213 := (f210.keep K211)
    obtain ⟨_, T212, Lc212, X212, hQ212, st212⟩ := own_virtual (W := 0) (y := mN9) (z := mN9) X211 hx hZ hown (hw _ (List.mem_of_getElem? (i := 53) rfl)) (hw _ (List.mem_of_getElem? (i := 54) rfl)) (notFace_of_selects (args := #[]) (mvT hZ (hw _ (List.mem_of_getElem? (i := 56) rfl)))) (hw _ (List.mem_of_getElem? (i := 56) rfl)) (hw _ (List.mem_of_getElem? (i := 55) rfl)) (hw _ (List.mem_of_getElem? (i := 57) rfl)) (hw _ (List.mem_of_getElem? (i := 3) rfl)) (by decide) (rmSame l Z av0 hw [] b123 T211.heap n0 Zk211 ) (by decide) (by decide) f213 (g := (mkF m 270 #[iv p0, iv p1, iv p2, iv p3, iv (((1 : Int32) + (2 : Int32))), iv (1 : Int32), iv (0 : Int32), rv b112, rv b123, rv b142, rv b170, rv b188, rv b112, rv b123, .unset] [(.ref b123), (.ref b123)])) rfl (by rw [hml]; rfl) (argsL := [(.ref b123)]) (rest := []) (lenOf pd__Ljava_lang_Object_Z rfl) rfl (by show 2 * 0 + _ ≤ _; exact Nat.le_of_eq rfl) (hb hby at_270) rfl e211 (by decide : 11 + 0 ≤ _) (by decide : 29 + 0 ≤ _)
    obtain ⟨rfl, N212q, hh212⟩ := hQ212
    have N212 := Fr.app N211 N212q
    have e212 : T212.heap = T211.heap := hh212
    have f214 := (f205.keep K211 (ninS ne_b170_b188 nin0))
    have f216 := (f207.keep K211)
    obtain ⟨_, T215, Lc215, X215, hQ215, st215⟩ := own_virtual (W := 0) (y := mN6) (z := mN6) X212 hx hZ hown (hw _ (List.mem_of_getElem? (i := 41) rfl)) (hw _ (List.mem_of_getElem? (i := 42) rfl)) (notFace_of_selects (args := #[]) (mvT hZ (hw _ (List.mem_of_getElem? (i := 44) rfl)))) (hw _ (List.mem_of_getElem? (i := 44) rfl)) (hw _ (List.mem_of_getElem? (i := 43) rfl)) (hw _ (List.mem_of_getElem? (i := 45) rfl)) (hw _ (List.mem_of_getElem? (i := 34) rfl)) (by decide) (rmHas l Z av0 hw [] b188 b170 k170 ((1 : Int32) + (2 : Int32)) [(.ref b112), (.ref b123), (.ref b142)] (((0 : Int32) + (1 : Int32)) + (1 : Int32)) T211.heap n0 Zk211 FA211 FN211 f214) (by decide) (by decide) f216 (g := (mkF m 280 #[iv p0, iv p1, iv p2, iv p3, iv (((1 : Int32) + (2 : Int32))), iv (1 : Int32), iv (0 : Int32), rv b112, rv b123, rv b142, rv b170, rv b188, rv b112, rv b123, .unset] [(.ref b188)])) rfl (by rw [hml]; rfl) (argsL := []) (rest := []) (lenOf pd__Z rfl) rfl (by show 2 * 0 + _ ≤ _; exact Nat.le_of_eq rfl) (hb hby at_280) rfl e212 (by decide : 11 + 0 ≤ _) (by decide : 29 + 0 ≤ _)
    obtain ⟨rfl, N215q, hh215⟩ := hQ215
    have N215 := Fr.app N212 N215q
    have e215 : T215.heap = T211.heap := hh215
    obtain ⟨_, T217, Lc217, X217, hQ217, st217⟩ := own_virtual (W := 0) (y := mN7) (z := mN7) X215 hx hZ hown (hw _ (List.mem_of_getElem? (i := 48) rfl)) (hw _ (List.mem_of_getElem? (i := 49) rfl)) (notFace_of_selects (args := #[]) (mvT hZ (hw _ (List.mem_of_getElem? (i := 51) rfl)))) (hw _ (List.mem_of_getElem? (i := 51) rfl)) (hw _ (List.mem_of_getElem? (i := 50) rfl)) (hw _ (List.mem_of_getElem? (i := 52) rfl)) (hw _ (List.mem_of_getElem? (i := 34) rfl)) (by decide) (rmOpt l Z av0 hw [] b188 b170 k170 ((1 : Int32) + (2 : Int32)) [(.ref b112), (.ref b123), (.ref b142)] (((0 : Int32) + (1 : Int32)) + (1 : Int32)) b142 T211.heap n0 Zk211 FA211 FN211 f214 f216 ge_b188 (Ne.symm ne_b170_b188) (by decide) rfl) (by decide) (by decide) f216 (g := (mkF m 309 #[iv p0, iv p1, iv p2, iv p3, iv (((1 : Int32) + (2 : Int32))), iv (1 : Int32), iv (0 : Int32), rv b112, rv b123, rv b142, rv b170, rv b188, rv b112, rv b123, .unset] [(.ref b188)])) rfl (by rw [hml]; rfl) (argsL := []) (rest := []) (lenOf pd__Ljava_lang_String_ rfl) rfl (by show 2 * 0 + _ ≤ _; exact Nat.le_of_eq rfl) (hb hby at_309) rfl e215 (by decide : 11 + 0 ≤ _) (by decide : 29 + 0 ≤ _)
    obtain ⟨rfl, N217q, K217, FN217, FA217⟩ := hQ217
    have N217 := Fr.app N215 N217q
    have e217 : T217.heap = T217.heap := rfl
    have Zk217 : n0 ≤ T217.heap.size := Nat.le_trans Zk211 K217.1
    have Kk217 : Keep h0 T217.heap [] := Kk211.trans K217 (allS (Or.inr sz_b188) all0)
    have f219 := (((((f195.ext E188).keep K198).keep K202).keep K211).keep K217)
    obtain ⟨_, T218, Lc218, X218, hQ218, st218⟩ := own_virtual (W := 0) (y := mN9) (z := mN9) X217 hx hZ hown (hw _ (List.mem_of_getElem? (i := 53) rfl)) (hw _ (List.mem_of_getElem? (i := 54) rfl)) (notFace_of_selects (args := #[]) (mvT hZ (hw _ (List.mem_of_getElem? (i := 56) rfl)))) (hw _ (List.mem_of_getElem? (i := 56) rfl)) (hw _ (List.mem_of_getElem? (i := 55) rfl)) (hw _ (List.mem_of_getElem? (i := 57) rfl)) (hw _ (List.mem_of_getElem? (i := 3) rfl)) (by decide) (rmSame l Z av0 hw [] b142 T217.heap n0 Zk217 ) (by decide) (by decide) f219 (g := (mkF m 318 #[iv p0, iv p1, iv p2, iv p3, iv (((1 : Int32) + (2 : Int32))), iv (1 : Int32), iv (0 : Int32), rv b112, rv b123, rv b142, rv b170, rv b188, rv b112, rv b123, rv b142] [(.ref b142), (.ref b142)])) rfl (by rw [hml]; rfl) (argsL := [(.ref b142)]) (rest := []) (lenOf pd__Ljava_lang_Object_Z rfl) rfl (by show 2 * 0 + _ ≤ _; exact Nat.le_of_eq rfl) (hb hby at_318) rfl e217 (by decide : 11 + 0 ≤ _) (by decide : 29 + 0 ≤ _)
    obtain ⟨rfl, N218q, hh218⟩ := hQ218
    have N218 := Fr.app N217 N218q
    have e218 : T218.heap = T217.heap := hh218
    have f220 := (f214.keep K217 (ninS ne_b170_b188 nin0))
    have f222 := (f216.keep K217)
    obtain ⟨_, T221, Lc221, X221, hQ221, st221⟩ := own_virtual (W := 0) (y := mN6) (z := mN6) X218 hx hZ hown (hw _ (List.mem_of_getElem? (i := 41) rfl)) (hw _ (List.mem_of_getElem? (i := 42) rfl)) (notFace_of_selects (args := #[]) (mvT hZ (hw _ (List.mem_of_getElem? (i := 44) rfl)))) (hw _ (List.mem_of_getElem? (i := 44) rfl)) (hw _ (List.mem_of_getElem? (i := 43) rfl)) (hw _ (List.mem_of_getElem? (i := 45) rfl)) (hw _ (List.mem_of_getElem? (i := 34) rfl)) (by decide) (rmHas l Z av0 hw [] b188 b170 k170 ((1 : Int32) + (2 : Int32)) [(.ref b112), (.ref b123), (.ref b142)] ((((0 : Int32) + (1 : Int32)) + (1 : Int32)) + (1 : Int32)) T217.heap n0 Zk217 FA217 FN217 f220) (by decide) (by decide) f222 (g := (mkF m 328 #[iv p0, iv p1, iv p2, iv p3, iv (((1 : Int32) + (2 : Int32))), iv (1 : Int32), iv (0 : Int32), rv b112, rv b123, rv b142, rv b170, rv b188, rv b112, rv b123, rv b142] [(.ref b188)])) rfl (by rw [hml]; rfl) (argsL := []) (rest := []) (lenOf pd__Z rfl) rfl (by show 2 * 0 + _ ≤ _; exact Nat.le_of_eq rfl) (hb hby at_328) rfl e218 (by decide : 11 + 0 ≤ _) (by decide : 29 + 0 ≤ _)
    obtain ⟨rfl, N221q, hh221⟩ := hQ221
    have N221 := Fr.app N218 N221q
    have e221 : T221.heap = T217.heap := hh221
    have S223 : ∀ t, Steps p.tables e below (T221.setTop (mkF m 339 #[iv p0, iv p1, iv p2, iv p3, iv (((1 : Int32) + (2 : Int32))), iv (1 : Int32), iv (0 : Int32), rv b112, rv b123, rv b142, rv b170, rv b188, rv b112, rv b123, rv b142] [(.int (1 : Int32))])) t → Steps p.tables e below (s₁.setTop (mkF m 0 #[iv p0, iv p1, iv p2, iv p3, .unset, .unset, .unset, .unset, .unset, .unset, .unset, .unset, .unset, .unset, .unset] [])) t := fun t k => S1 t (by
      show Steps p.tables e below (s₁.setTop (mkF m 16 #[iv p0, iv p1, iv p2, iv p3, iv (((1 : Int32) + (2 : Int32))), .unset, .unset, .unset, .unset, .unset, .unset, .unset, .unset, .unset, .unset] [(.int ((XT.ushr p3 (8 : Int32)) &&& (1 : Int32)))])) _
      refine XS.ifNo X0.here hx rfl (hb hby at_16) rfl (XT.i0_eq_f hc16_2) ?_
      refine XT.iconstV X0.here hx rfl (1 : Int32) (hb hby at_19) (by decide) ?_
      refine XS.goto X0.here hx rfl (pc0 := 20) (pc' := 24) rfl (hb hby at_20) (by decide) (by decide) ?_
      refine XS.istore X0.here hx rfl (hb hby at_24) rfl (l' := #[iv p0, iv p1, iv p2, iv p3, iv (((1 : Int32) + (2 : Int32))), iv (1 : Int32), .unset, .unset, .unset, .unset, .unset, .unset, .unset, .unset, .unset]) rfl ?_
      show Steps p.tables e below (s₁.setTop (mkF m 26 #[iv p0, iv p1, iv p2, iv p3, iv (((1 : Int32) + (2 : Int32))), iv (1 : Int32), .unset, .unset, .unset, .unset, .unset, .unset, .unset, .unset, .unset] [])) _
      refine XS.iloadN X0.here hx rfl (hb hby at_26) rfl ?_
      refine XT.bipushV X0.here hx rfl (9 : Int32) (hb hby at_27) (by decide) ?_
      refine XT.iushr X0.here hx rfl (hb hby at_29) rfl ?_
      refine XT.iconstV X0.here hx rfl (1 : Int32) (hb hby at_30) (by decide) ?_
      refine XS.iand X0.here hx rfl (hb hby at_31) rfl ?_
      show Steps p.tables e below (s₁.setTop (mkF m 32 #[iv p0, iv p1, iv p2, iv p3, iv (((1 : Int32) + (2 : Int32))), iv (1 : Int32), .unset, .unset, .unset, .unset, .unset, .unset, .unset, .unset, .unset] [(.int ((XT.ushr p3 (9 : Int32)) &&& (1 : Int32)))])) _
      rw [he]
      show Steps p.tables e below (s₁.setTop (mkF m 32 #[iv p0, iv p1, iv p2, iv p3, iv (((1 : Int32) + (2 : Int32))), iv (1 : Int32), .unset, .unset, .unset, .unset, .unset, .unset, .unset, .unset, .unset] [(.int (0 : Int32))])) _
      refine XS.ifYes X0.here hx rfl (pc0 := 32) (pc' := 39) rfl (hb hby at_32) rfl (XT.i0_eq_t (by decide)) (by decide) (by decide) ?_
      refine XT.iconstV X0.here hx rfl (0 : Int32) (hb hby at_39) (by decide) ?_
      refine XS.istore X0.here hx rfl (hb hby at_40) rfl (l' := #[iv p0, iv p1, iv p2, iv p3, iv (((1 : Int32) + (2 : Int32))), iv (1 : Int32), iv (0 : Int32), .unset, .unset, .unset, .unset, .unset, .unset, .unset, .unset]) rfl ?_
      refine XS.iload X0.here hx rfl (hb hby at_42) rfl ?_
      refine XS.ifYes X0.here hx rfl (pc0 := 44) (pc' := 60) rfl (hb hby at_44) rfl (XT.i0_eq_t (by decide)) (by decide) (by decide) ?_
      refine st112 _ ?_
      show Steps p.tables e below (T112.setTop (mkF m 63 #[iv p0, iv p1, iv p2, iv p3, iv (((1 : Int32) + (2 : Int32))), iv (1 : Int32), iv (0 : Int32), .unset, .unset, .unset, .unset, .unset, .unset, .unset, .unset] [(.ref b112)])) _
      refine XS.dup X112.here hx rfl (hb hby at_63) rfl rfl ?_
      refine XT.iconstV X112.here hx rfl (2 : Int32) (hb hby at_64) (by decide) ?_
      refine st113 _ ?_
      refine XS.dup X113.here hx rfl (hb hby at_67) rfl rfl ?_
      refine XT.iconstV X113.here hx rfl (0 : Int32) (hb hby at_68) (by decide) ?_
      refine XS.iloadN X113.here hx rfl (hb hby at_69) rfl ?_
      show Steps p.tables e below (T113.setTop (mkF m 70 #[iv p0, iv p1, iv p2, iv p3, iv (((1 : Int32) + (2 : Int32))), iv (1 : Int32), iv (0 : Int32), .unset, .unset, .unset, .unset, .unset, .unset, .unset, .unset] [(.int p0), (.int (0 : Int32)), (.ref b113), (.ref b113), (.ref b112), (.ref b112)])) _
      refine XT.sipushV X113.here hx rfl (255 : Int32) (hb hby at_70) (by decide) ?_
      refine XS.iand X113.here hx rfl (hb hby at_73) rfl ?_
      refine XT.i2c X113.here hx rfl (hb hby at_74) rfl ?_
      refine st115 _ ?_
      refine XS.dup X115.here hx rfl (hb hby at_76) rfl rfl ?_
      refine XT.iconstV X115.here hx rfl (1 : Int32) (hb hby at_77) (by decide) ?_
      show Steps p.tables e below (T115.setTop (mkF m 78 #[iv p0, iv p1, iv p2, iv p3, iv (((1 : Int32) + (2 : Int32))), iv (1 : Int32), iv (0 : Int32), .unset, .unset, .unset, .unset, .unset, .unset, .unset, .unset] [(.int (1 : Int32)), (.ref b113), (.ref b113), (.ref b112), (.ref b112)])) _
      refine XT.bipushV X115.here hx rfl (97 : Int32) (hb hby at_78) (by decide) ?_
      refine st117 _ ?_
      refine st122 _ ?_
      refine XS.astore X122.here hx rfl (hb hby at_84) rfl rfl (l' := #[iv p0, iv p1, iv p2, iv p3, iv (((1 : Int32) + (2 : Int32))), iv (1 : Int32), iv (0 : Int32), rv b112, .unset, .unset, .unset, .unset, .unset, .unset, .unset]) rfl ?_
      refine st123 _ ?_
      refine XS.dup X123.here hx rfl (hb hby at_89) rfl rfl ?_
      show Steps p.tables e below (T123.setTop (mkF m 90 #[iv p0, iv p1, iv p2, iv p3, iv (((1 : Int32) + (2 : Int32))), iv (1 : Int32), iv (0 : Int32), rv b112, .unset, .unset, .unset, .unset, .unset, .unset, .unset] [(.ref b123), (.ref b123)])) _
      refine XT.iconstV X123.here hx rfl (2 : Int32) (hb hby at_90) (by decide) ?_
      refine st126 _ ?_
      refine XS.dup X126.here hx rfl (hb hby at_93) rfl rfl ?_
      refine XT.iconstV X126.here hx rfl (0 : Int32) (hb hby at_94) (by decide) ?_
      refine XS.iloadN X126.here hx rfl (hb hby at_95) rfl ?_
      refine XT.sipushV X126.here hx rfl (255 : Int32) (hb hby at_96) (by decide) ?_
      show Steps p.tables e below (T126.setTop (mkF m 99 #[iv p0, iv p1, iv p2, iv p3, iv (((1 : Int32) + (2 : Int32))), iv (1 : Int32), iv (0 : Int32), rv b112, .unset, .unset, .unset, .unset, .unset, .unset, .unset] [(.int (255 : Int32)), (.int p1), (.int (0 : Int32)), (.ref b126), (.ref b126), (.ref b123), (.ref b123)])) _
      refine XS.iand X126.here hx rfl (hb hby at_99) rfl ?_
      refine XT.i2c X126.here hx rfl (hb hby at_100) rfl ?_
      refine st131 _ ?_
      refine XS.dup X131.here hx rfl (hb hby at_102) rfl rfl ?_
      refine XT.iconstV X131.here hx rfl (1 : Int32) (hb hby at_103) (by decide) ?_
      refine XT.bipushV X131.here hx rfl (98 : Int32) (hb hby at_104) (by decide) ?_
      show Steps p.tables e below (T131.setTop (mkF m 106 #[iv p0, iv p1, iv p2, iv p3, iv (((1 : Int32) + (2 : Int32))), iv (1 : Int32), iv (0 : Int32), rv b112, .unset, .unset, .unset, .unset, .unset, .unset, .unset] [(.int (98 : Int32)), (.int (1 : Int32)), (.ref b126), (.ref b126), (.ref b123), (.ref b123)])) _
      refine st133 _ ?_
      refine st138 _ ?_
      refine XS.astore X138.here hx rfl (hb hby at_110) rfl rfl (l' := #[iv p0, iv p1, iv p2, iv p3, iv (((1 : Int32) + (2 : Int32))), iv (1 : Int32), iv (0 : Int32), rv b112, rv b123, .unset, .unset, .unset, .unset, .unset, .unset]) rfl ?_
      refine st142 _ ?_
      refine XS.dup X142.here hx rfl (hb hby at_115) rfl rfl ?_
      refine XT.iconstV X142.here hx rfl (2 : Int32) (hb hby at_116) (by decide) ?_
      show Steps p.tables e below (T142.setTop (mkF m 117 #[iv p0, iv p1, iv p2, iv p3, iv (((1 : Int32) + (2 : Int32))), iv (1 : Int32), iv (0 : Int32), rv b112, rv b123, .unset, .unset, .unset, .unset, .unset, .unset] [(.int (2 : Int32)), (.ref b142), (.ref b142)])) _
      refine st148 _ ?_
      refine XS.dup X148.here hx rfl (hb hby at_119) rfl rfl ?_
      refine XT.iconstV X148.here hx rfl (0 : Int32) (hb hby at_120) (by decide) ?_
      refine XS.iloadN X148.here hx rfl (hb hby at_121) rfl ?_
      refine XT.sipushV X148.here hx rfl (255 : Int32) (hb hby at_122) (by decide) ?_
      refine XS.iand X148.here hx rfl (hb hby at_125) rfl ?_
      show Steps p.tables e below (T148.setTop (mkF m 126 #[iv p0, iv p1, iv p2, iv p3, iv (((1 : Int32) + (2 : Int32))), iv (1 : Int32), iv (0 : Int32), rv b112, rv b123, .unset, .unset, .unset, .unset, .unset, .unset] [(.int (p2 &&& (255 : Int32))), (.int (0 : Int32)), (.ref b148), (.ref b148), (.ref b142), (.ref b142)])) _
      refine XT.i2c X148.here hx rfl (hb hby at_126) rfl ?_
      refine st156 _ ?_
      refine XS.dup X156.here hx rfl (hb hby at_128) rfl rfl ?_
      refine XT.iconstV X156.here hx rfl (1 : Int32) (hb hby at_129) (by decide) ?_
      refine XT.bipushV X156.here hx rfl (99 : Int32) (hb hby at_130) (by decide) ?_
      refine st158 _ ?_
      show Steps p.tables e below (T158.setTop (mkF m 133 #[iv p0, iv p1, iv p2, iv p3, iv (((1 : Int32) + (2 : Int32))), iv (1 : Int32), iv (0 : Int32), rv b112, rv b123, .unset, .unset, .unset, .unset, .unset, .unset] [(.ref b148), (.ref b142), (.ref b142)])) _
      refine st163 _ ?_
      refine XS.astore X163.here hx rfl (hb hby at_136) rfl rfl (l' := #[iv p0, iv p1, iv p2, iv p3, iv (((1 : Int32) + (2 : Int32))), iv (1 : Int32), iv (0 : Int32), rv b112, rv b123, rv b142, .unset, .unset, .unset, .unset, .unset]) rfl ?_
      refine XS.iload X163.here hx rfl (hb hby at_138) rfl ?_
      refine st170 _ ?_
      refine XS.astore X170.here hx rfl (hb hby at_143) rfl rfl (l' := #[iv p0, iv p1, iv p2, iv p3, iv (((1 : Int32) + (2 : Int32))), iv (1 : Int32), iv (0 : Int32), rv b112, rv b123, rv b142, rv b170, .unset, .unset, .unset, .unset]) rfl ?_
      refine XS.aload X170.here hx rfl (hb hby at_145) rfl rfl ?_
      show Steps p.tables e below (T170.setTop (mkF m 147 #[iv p0, iv p1, iv p2, iv p3, iv (((1 : Int32) + (2 : Int32))), iv (1 : Int32), iv (0 : Int32), rv b112, rv b123, rv b142, rv b170, .unset, .unset, .unset, .unset] [(.ref b170)])) _
      refine XT.iconstV X170.here hx rfl (0 : Int32) (hb hby at_147) (by decide) ?_
      refine XS.aload X170.here hx rfl (hb hby at_148) rfl rfl ?_
      refine st181 _ ?_
      refine XS.iload X181.here hx rfl (hb hby at_151) rfl ?_
      refine XT.iconstV X181.here hx rfl (1 : Int32) (hb hby at_153) (by decide) ?_
      refine XS.icmpNo X181.here hx rfl (hb hby at_154) rfl (XT.ii_le_f (by decide)) ?_
      show Steps p.tables e below (T181.setTop (mkF m 157 #[iv p0, iv p1, iv p2, iv p3, iv (((1 : Int32) + (2 : Int32))), iv (1 : Int32), iv (0 : Int32), rv b112, rv b123, rv b142, rv b170, .unset, .unset, .unset, .unset] [])) _
      refine XS.aload X181.here hx rfl (hb hby at_157) rfl rfl ?_
      refine XT.iconstV X181.here hx rfl (1 : Int32) (hb hby at_159) (by decide) ?_
      refine XS.aload X181.here hx rfl (hb hby at_160) rfl rfl ?_
      refine st184 _ ?_
      refine XS.iload X184.here hx rfl (hb hby at_163) rfl ?_
      refine XT.iconstV X184.here hx rfl (2 : Int32) (hb hby at_165) (by decide) ?_
      show Steps p.tables e below (T184.setTop (mkF m 166 #[iv p0, iv p1, iv p2, iv p3, iv (((1 : Int32) + (2 : Int32))), iv (1 : Int32), iv (0 : Int32), rv b112, rv b123, rv b142, rv b170, .unset, .unset, .unset, .unset] [(.int (2 : Int32)), (.int ((1 : Int32) + (2 : Int32)))])) _
      refine XS.icmpNo X184.here hx rfl (hb hby at_166) rfl (XT.ii_le_f (by decide)) ?_
      refine XS.aload X184.here hx rfl (hb hby at_169) rfl rfl ?_
      refine XT.iconstV X184.here hx rfl (2 : Int32) (hb hby at_171) (by decide) ?_
      refine XS.aload X184.here hx rfl (hb hby at_172) rfl rfl ?_
      refine st187 _ ?_
      refine st188 _ ?_
      show Steps p.tables e below (T188.setTop (mkF m 178 #[iv p0, iv p1, iv p2, iv p3, iv (((1 : Int32) + (2 : Int32))), iv (1 : Int32), iv (0 : Int32), rv b112, rv b123, rv b142, rv b170, .unset, .unset, .unset, .unset] [(.ref b188)])) _
      refine XS.dup X188.here hx rfl (hb hby at_178) rfl rfl ?_
      refine XS.aload X188.here hx rfl (hb hby at_179) rfl rfl ?_
      refine st198 _ ?_
      refine XS.astore X198.here hx rfl (hb hby at_184) rfl rfl (l' := #[iv p0, iv p1, iv p2, iv p3, iv (((1 : Int32) + (2 : Int32))), iv (1 : Int32), iv (0 : Int32), rv b112, rv b123, rv b142, rv b170, rv b188, .unset, .unset, .unset]) rfl ?_
      refine XS.aload X198.here hx rfl (hb hby at_186) rfl rfl ?_
      refine st200 _ ?_
      show Steps p.tables e below (T200.setTop (mkF m 191 #[iv p0, iv p1, iv p2, iv p3, iv (((1 : Int32) + (2 : Int32))), iv (1 : Int32), iv (0 : Int32), rv b112, rv b123, rv b142, rv b170, rv b188, .unset, .unset, .unset] [(.int (own_lt (0 : Int32) ((1 : Int32) + (2 : Int32))))])) _
      refine XS.ifYes X200.here hx rfl (pc0 := 191) (pc' := 196) rfl (hb hby at_191) rfl (XT.i0_ne_t (by decide)) (by decide) (by decide) ?_
      refine XS.aload X200.here hx rfl (hb hby at_196) rfl rfl ?_
      refine st202 _ ?_
      refine XS.astore X202.here hx rfl (hb hby at_201) rfl rfl (l' := #[iv p0, iv p1, iv p2, iv p3, iv (((1 : Int32) + (2 : Int32))), iv (1 : Int32), iv (0 : Int32), rv b112, rv b123, rv b142, rv b170, rv b188, rv b112, .unset, .unset]) rfl ?_
      refine XS.aload X202.here hx rfl (hb hby at_203) rfl rfl ?_
      refine XS.aload X202.here hx rfl (hb hby at_205) rfl rfl ?_
      show Steps p.tables e below (T202.setTop (mkF m 207 #[iv p0, iv p1, iv p2, iv p3, iv (((1 : Int32) + (2 : Int32))), iv (1 : Int32), iv (0 : Int32), rv b112, rv b123, rv b142, rv b170, rv b188, rv b112, .unset, .unset] [(.ref b112), (.ref b112)])) _
      refine st203 _ ?_
      refine XS.ifYes X203.here hx rfl (pc0 := 210) (pc' := 215) rfl (hb hby at_210) rfl (XT.i0_ne_t (by decide)) (by decide) (by decide) ?_
      refine XS.aload X203.here hx rfl (hb hby at_215) rfl rfl ?_
      refine st206 _ ?_
      refine XS.iload X206.here hx rfl (hb hby at_220) rfl ?_
      refine XT.iconstV X206.here hx rfl (1 : Int32) (hb hby at_222) (by decide) ?_
      show Steps p.tables e below (T206.setTop (mkF m 223 #[iv p0, iv p1, iv p2, iv p3, iv (((1 : Int32) + (2 : Int32))), iv (1 : Int32), iv (0 : Int32), rv b112, rv b123, rv b142, rv b170, rv b188, rv b112, .unset, .unset] [(.int (1 : Int32)), (.int ((1 : Int32) + (2 : Int32))), (.int (own_lt ((0 : Int32) + (1 : Int32)) ((1 : Int32) + (2 : Int32))))])) _
      refine XS.icmpNo X206.here hx rfl (hb hby at_223) rfl (XT.ii_le_f (by decide)) ?_
      refine XT.iconstV X206.here hx rfl (1 : Int32) (hb hby at_226) (by decide) ?_
      refine XS.goto X206.here hx rfl (pc0 := 227) (pc' := 231) rfl (hb hby at_227) (by decide) (by decide) ?_
      refine XS.icmpYes X206.here hx rfl (pc0 := 231) (pc' := 236) rfl (hb hby at_231) rfl (XT.ii_eq_t (by decide)) (by decide) (by decide) ?_
      refine XS.iload X206.here hx rfl (hb hby at_236) rfl ?_
      refine XT.iconstV X206.here hx rfl (1 : Int32) (hb hby at_238) (by decide) ?_
      show Steps p.tables e below (T206.setTop (mkF m 239 #[iv p0, iv p1, iv p2, iv p3, iv (((1 : Int32) + (2 : Int32))), iv (1 : Int32), iv (0 : Int32), rv b112, rv b123, rv b142, rv b170, rv b188, rv b112, .unset, .unset] [(.int (1 : Int32)), (.int ((1 : Int32) + (2 : Int32)))])) _
      refine XS.icmpYes X206.here hx rfl (pc0 := 239) (pc' := 244) rfl (hb hby at_239) rfl (XT.ii_ne_t (by decide)) (by decide) (by decide) ?_
      refine XS.iload X206.here hx rfl (hb hby at_244) rfl ?_
      refine XS.ifNo X206.here hx rfl (hb hby at_246) rfl (XT.i0_eq_f (by decide)) ?_
      refine XS.aload X206.here hx rfl (hb hby at_249) rfl rfl ?_
      refine XS.aload X206.here hx rfl (hb hby at_251) rfl rfl ?_
      refine st211 _ ?_
      show Steps p.tables e below (T211.setTop (mkF m 256 #[iv p0, iv p1, iv p2, iv p3, iv (((1 : Int32) + (2 : Int32))), iv (1 : Int32), iv (0 : Int32), rv b112, rv b123, rv b142, rv b170, rv b188, rv b112, .unset, .unset] [(.ref b123)])) _
      refine XS.goto X211.here hx rfl (pc0 := 256) (pc' := 264) rfl (hb hby at_256) (by decide) (by decide) ?_
      refine XS.astore X211.here hx rfl (hb hby at_264) rfl rfl (l' := #[iv p0, iv p1, iv p2, iv p3, iv (((1 : Int32) + (2 : Int32))), iv (1 : Int32), iv (0 : Int32), rv b112, rv b123, rv b142, rv b170, rv b188, rv b112, rv b123, .unset]) rfl ?_
      refine XS.aload X211.here hx rfl (hb hby at_266) rfl rfl ?_
      refine XS.aload X211.here hx rfl (hb hby at_268) rfl rfl ?_
      refine st212 _ ?_
      refine XS.ifYes X212.here hx rfl (pc0 := 273) (pc' := 278) rfl (hb hby at_273) rfl (XT.i0_ne_t (by decide)) (by decide) (by decide) ?_
      show Steps p.tables e below (T212.setTop (mkF m 278 #[iv p0, iv p1, iv p2, iv p3, iv (((1 : Int32) + (2 : Int32))), iv (1 : Int32), iv (0 : Int32), rv b112, rv b123, rv b142, rv b170, rv b188, rv b112, rv b123, .unset] [])) _
      refine XS.aload X212.here hx rfl (hb hby at_278) rfl rfl ?_
      refine st215 _ ?_
      refine XS.iload X215.here hx rfl (hb hby at_283) rfl ?_
      refine XT.iconstV X215.here hx rfl (2 : Int32) (hb hby at_285) (by decide) ?_
      refine XS.icmpNo X215.here hx rfl (hb hby at_286) rfl (XT.ii_le_f (by decide)) ?_
      refine XT.iconstV X215.here hx rfl (1 : Int32) (hb hby at_289) (by decide) ?_
      show Steps p.tables e below (T215.setTop (mkF m 290 #[iv p0, iv p1, iv p2, iv p3, iv (((1 : Int32) + (2 : Int32))), iv (1 : Int32), iv (0 : Int32), rv b112, rv b123, rv b142, rv b170, rv b188, rv b112, rv b123, .unset] [(.int (1 : Int32)), (.int (own_lt (((0 : Int32) + (1 : Int32)) + (1 : Int32)) ((1 : Int32) + (2 : Int32))))])) _
      refine XS.goto X215.here hx rfl (pc0 := 290) (pc' := 294) rfl (hb hby at_290) (by decide) (by decide) ?_
      refine XS.icmpYes X215.here hx rfl (pc0 := 294) (pc' := 299) rfl (hb hby at_294) rfl (XT.ii_eq_t (by decide)) (by decide) (by decide) ?_
      refine XS.iload X215.here hx rfl (hb hby at_299) rfl ?_
      refine XT.iconstV X215.here hx rfl (2 : Int32) (hb hby at_301) (by decide) ?_
      refine XS.icmpYes X215.here hx rfl (pc0 := 302) (pc' := 307) rfl (hb hby at_302) rfl (XT.ii_ne_t (by decide)) (by decide) (by decide) ?_
      refine XS.aload X215.here hx rfl (hb hby at_307) rfl rfl ?_
      show Steps p.tables e below (T215.setTop (mkF m 309 #[iv p0, iv p1, iv p2, iv p3, iv (((1 : Int32) + (2 : Int32))), iv (1 : Int32), iv (0 : Int32), rv b112, rv b123, rv b142, rv b170, rv b188, rv b112, rv b123, .unset] [(.ref b188)])) _
      refine st217 _ ?_
      refine XS.astore X217.here hx rfl (hb hby at_312) rfl rfl (l' := #[iv p0, iv p1, iv p2, iv p3, iv (((1 : Int32) + (2 : Int32))), iv (1 : Int32), iv (0 : Int32), rv b112, rv b123, rv b142, rv b170, rv b188, rv b112, rv b123, rv b142]) rfl ?_
      refine XS.aload X217.here hx rfl (hb hby at_314) rfl rfl ?_
      refine XS.aload X217.here hx rfl (hb hby at_316) rfl rfl ?_
      refine st218 _ ?_
      refine XS.ifYes X218.here hx rfl (pc0 := 321) (pc' := 326) rfl (hb hby at_321) rfl (XT.i0_ne_t (by decide)) (by decide) (by decide) ?_
      show Steps p.tables e below (T218.setTop (mkF m 326 #[iv p0, iv p1, iv p2, iv p3, iv (((1 : Int32) + (2 : Int32))), iv (1 : Int32), iv (0 : Int32), rv b112, rv b123, rv b142, rv b170, rv b188, rv b112, rv b123, rv b142] [])) _
      refine XS.aload X218.here hx rfl (hb hby at_326) rfl rfl ?_
      refine st221 _ ?_
      refine XS.ifNo X221.here hx rfl (hb hby at_331) rfl (XT.i0_ne_f (by decide)) ?_
      refine XT.iconstV X221.here hx rfl (1 : Int32) (hb hby at_334) (by decide) ?_
      refine XS.goto X221.here hx rfl (pc0 := 335) (pc' := 339) rfl (hb hby at_335) (by decide) (by decide) ?_
      exact k)
    obtain ⟨fs, hr, hrun, hended, hW, hsame⟩ := X221.leave (v := some (.int (1 : Int32))) (fun h => by rw [Bd.returns] at h; cases h)
    refine ⟨_, _, pre0 _ (S223 _ ?_), hrun, hended, _, _, rfl, ?_, ReturnedEndW.of_narrow ⟨_, rfl⟩ hW (hsame.mono (by decide) (by decide))⟩
    · exact retN X221 hx (t := .boolean) Bd.returns (by simp) (hb hby at_339) hr
    · show Qrm0 Z p0 p1 p2 p3 wC h0 n0 _ T221.heap _
      rw [e221]
      exact ⟨rfl, N221⟩
set_option maxRecDepth 65536 in
set_option maxHeartbeats 40000000 in
theorem rm0_3_1 (l : Launch) (Z : State) (av0 : Array Value) (hw : ∀ d ∈ tables_1, d.before av0 Z = true) (ws : List Jvm.Cond) (p0 : Int32) (p1 : Int32) (p2 : Int32) (p3 : Int32) (wC : Int32) (h0 : Heap) (n0 : Nat) (Z0 : n0 ≤ h0.size) (hS : Sta Z h0 "java/lang/String" "COMPACT_STRINGS" "Z" (.int wC)) (hw0 : ¬ wC = (0 : Int32)) (hkp : ∀ (b : Addr) (cl : Cell), Z.heap[b]? = some cl → h0[b]? = some cl) (hcH : Jvm.Lit.constHeld Z "java/lang/String" 7) (hcw : Jvm.Lit.compactW.before av0 Z = true) (hk : own_P p3 (3 : Int32) = (2 : Int32)) (he : XT.ushr p3 (9 : Int32) &&& (1 : Int32) = (1 : Int32)) :
    MetFree l x (head1 (Jvm.Cond.code x code maxLocals ret :: ws) room_1) (fun aU U => aU = #[(.int p0), (.int p1), (.int p2), (.int p3)] ∧ Z.Warmed39 U.vm ∧ U.heap = h0 ∧ IB Z U.vm []) (fun _ _ _ _ _ => True) (fun _ U oU U' => ∃ vU LU, oU = .returned vU ∧ Qrm0 Z p0 p1 p2 p3 wC h0 n0 vU U'.heap LU ∧ ReturnedEndW U oU U' LU room_1.cells room_1.slots) := by
  refine MetFree.of_bodySF (plainFor_of_name pn_OptionReaderOptionPinLaw) hisR ?_
  intro p e s m args below meth c s₁ Bd hml0 hP hK
  obtain ⟨rfl, hZ, hh, hI⟩ := hP
  have hx := Bd.exec
  have hby := Bd.bytes
  have hml : c.maxLocals = 15 := hml0
  have hown : s.vm.findClass "com/example/steady_courier/steadycourier/OptionReaderOptionPinLaw" = some m.cls := findClass_of_methodNamed Bd.named
  have hnm := (name_of_methodNamed Bd.named Bd.method).1
  have X0 : Stand p l e room_1 s m #[(.int p0), (.int p1), (.int p2), (.int p3)] below meth c s₁ [] 0 0 := Stand.of_body Bd
  have e0 : s₁.heap = h0 := by rw [← hh, Bd.state]; rfl
  have N0 := Fr.nil n0
  have pre0 : ∀ t, Steps p.tables e below (s₁.setTop (mkF m 0 #[iv p0, iv p1, iv p2, iv p3, .unset, .unset, .unset, .unset, .unset, .unset, .unset, .unset, .unset, .unset, .unset] [])) t → Steps p.tables e below (s₁.setTop (entryFrame m #[(.int p0), (.int p1), (.int p2), (.int p3)] maxLocals)) t := fun t k => castTop (by first | (simp [entryFrame, mkF, argsToLocals, Value.category, maxLocals]; done) | rfl) k
  have S1 : ∀ t, Steps p.tables e below (s₁.setTop (mkF m 16 #[iv p0, iv p1, iv p2, iv p3, iv (((1 : Int32) + (2 : Int32))), .unset, .unset, .unset, .unset, .unset, .unset, .unset, .unset, .unset, .unset] [(.int ((XT.ushr p3 (8 : Int32)) &&& (1 : Int32)))])) t → Steps p.tables e below (s₁.setTop (mkF m 0 #[iv p0, iv p1, iv p2, iv p3, .unset, .unset, .unset, .unset, .unset, .unset, .unset, .unset, .unset, .unset, .unset] [])) t := fun t k => id (by
    show Steps p.tables e below (s₁.setTop (mkF m 0 #[iv p0, iv p1, iv p2, iv p3, .unset, .unset, .unset, .unset, .unset, .unset, .unset, .unset, .unset, .unset, .unset] [])) _
    refine XT.iconstV X0.here hx rfl (1 : Int32) (hb hby at_0) (by decide) ?_
    refine XS.iloadN X0.here hx rfl (hb hby at_1) rfl ?_
    refine X0.ldcI hx hown (mvT hZ (hw _ (List.mem_of_getElem? (i := 0) rfl))) rfl (hb hby at_2) ?_
    refine XS.iand X0.here hx rfl (hb hby at_4) rfl ?_
    refine XT.iconstV X0.here hx rfl (3 : Int32) (hb hby at_5) (by decide) ?_
    refine XS.irem X0.here hx rfl (hb hby at_6) rfl (by decide) ?_
    show Steps p.tables e below (s₁.setTop (mkF m 7 #[iv p0, iv p1, iv p2, iv p3, .unset, .unset, .unset, .unset, .unset, .unset, .unset, .unset, .unset, .unset, .unset] [(.int ((p3 &&& (2147483647 : Int32)) - ((p3 &&& (2147483647 : Int32)) / (3 : Int32)) * (3 : Int32))), (.int (1 : Int32))])) _
    show Steps p.tables e below (s₁.setTop (mkF m 7 #[iv p0, iv p1, iv p2, iv p3, .unset, .unset, .unset, .unset, .unset, .unset, .unset, .unset, .unset, .unset, .unset] [(.int ((p3 &&& (2147483647 : Int32)) - ((p3 &&& (2147483647 : Int32)) / (3 : Int32)) * (3 : Int32))), (.int (1 : Int32))])) _
    show Steps p.tables e below (s₁.setTop (mkF m 7 #[iv p0, iv p1, iv p2, iv p3, .unset, .unset, .unset, .unset, .unset, .unset, .unset, .unset, .unset, .unset, .unset] [(.int (own_P p3 (3 : Int32))), (.int (1 : Int32))])) _
    rw [hk]
    show Steps p.tables e below (s₁.setTop (mkF m 7 #[iv p0, iv p1, iv p2, iv p3, .unset, .unset, .unset, .unset, .unset, .unset, .unset, .unset, .unset, .unset, .unset] [(.int (2 : Int32)), (.int (1 : Int32))])) _
    refine XS.iadd X0.here hx rfl (hb hby at_7) rfl ?_
    refine XS.istore X0.here hx rfl (hb hby at_8) rfl (l' := #[iv p0, iv p1, iv p2, iv p3, iv (((1 : Int32) + (2 : Int32))), .unset, .unset, .unset, .unset, .unset, .unset, .unset, .unset, .unset, .unset]) rfl ?_
    refine XS.iloadN X0.here hx rfl (hb hby at_10) rfl ?_
    refine XT.bipushV X0.here hx rfl (8 : Int32) (hb hby at_11) (by decide) ?_
    refine XT.iushr X0.here hx rfl (hb hby at_13) rfl ?_
    show Steps p.tables e below (s₁.setTop (mkF m 14 #[iv p0, iv p1, iv p2, iv p3, iv (((1 : Int32) + (2 : Int32))), .unset, .unset, .unset, .unset, .unset, .unset, .unset, .unset, .unset, .unset] [(.int (XT.ushr p3 (8 : Int32)))])) _
    refine XT.iconstV X0.here hx rfl (1 : Int32) (hb hby at_14) (by decide) ?_
    refine XS.iand X0.here hx rfl (hb hby at_15) rfl ?_
    exact k)
  by_cases hc16_2 : ((XT.ushr p3 (8 : Int32)) &&& (1 : Int32)) = (0 : Int32)
  · obtain ⟨T3, h3, X3, e3, E3, A3, D3, -, st3⟩ := newO X0 hx hZ hown (hw _ (List.mem_of_getElem? (i := 1) rfl)) (hw _ (List.mem_of_getElem? (i := 2) rfl)) (hw _ (List.mem_of_getElem? (i := 3) rfl)) e0 (g := (mkF m 47 #[iv p0, iv p1, iv p2, iv p3, iv (((1 : Int32) + (2 : Int32))), iv (0 : Int32), iv (1 : Int32), .unset, .unset, .unset, .unset, .unset, .unset, .unset, .unset] [])) rfl (hb hby at_47) (by decide) (by decide)
    obtain ⟨b3, g3⟩ : ∃ z, z = h0.size := ⟨_, rfl⟩
    rw [← g3] at A3 D3 st3
    have ge_b3 : n0 ≤ b3 := Nat.le_trans Z0 (Nat.le_of_eq g3.symm)
    have sz_b3 : h0.size ≤ b3 := Nat.le_of_eq g3.symm
    have Z3 : n0 ≤ h3.size := Nat.le_trans Z0 E3.1
    have K3 : Keep h0 h3 [] := (Keep.refl h0 []).ext E3
    have F3_coder : Fld Z h3 b3 "java/lang/String" "coder" "B" (.int (0 : Int32)) := D3 (Or.inr (hw _ (List.mem_of_getElem? (i := 28) rfl))) (ty := .byte) (by decide)
    have F3_value : Fld Z h3 b3 "java/lang/String" "value" "[B" .null := D3 (Or.inr (hw _ (List.mem_of_getElem? (i := 30) rfl))) (ty := (.array .byte)) (by decide)
    obtain ⟨T4, h4, k4, X4, e4, E4, A4, st4⟩ := newP X3 hx hZ (hw _ (List.mem_of_getElem? (i := 4) rfl)) e3 (g := (mkF m 52 #[iv p0, iv p1, iv p2, iv p3, iv (((1 : Int32) + (2 : Int32))), iv (0 : Int32), iv (1 : Int32), .unset, .unset, .unset, .unset, .unset, .unset, .unset, .unset] [(.int (0 : Int32)), (.ref b3), (.ref b3)])) rfl (hb hby at_52) rfl (by decide) (cap := 0) (by decide) (by decide) (by decide) (by decide)
    obtain ⟨b4, g4⟩ : ∃ z, z = h3.size := ⟨_, rfl⟩
    rw [← g4] at A4 st4
    have ne_b3_b4 : b3 ≠ b4 := Nat.ne_of_lt (Nat.lt_of_lt_of_le A3.lt (Nat.le_of_eq g4.symm))
    have ge_b4 : n0 ≤ b4 := Nat.le_trans Z3 (Nat.le_of_eq g4.symm)
    have sz_b4 : h0.size ≤ b4 := Nat.le_trans K3.1 (Nat.le_of_eq g4.symm)
    have Z4 : n0 ≤ h4.size := Nat.le_trans Z3 E4.1
    have K4 : Keep h0 h4 [] := K3.ext E4
    have V4 : Arv Z h4 b4 k4 .char (0 : Int32) [] (.int (0 : Int32)) := Arv.new A4 (by decide)
    have f5 := (A3.ext E4)
    have f6 := (F3_value.ext E4)
    have f7 := (F3_coder.ext E4)
    have S9 : ∀ t, Steps p.tables e below (T4.setTop (mkF m 54 #[iv p0, iv p1, iv p2, iv p3, iv (((1 : Int32) + (2 : Int32))), iv (0 : Int32), iv (1 : Int32), .unset, .unset, .unset, .unset, .unset, .unset, .unset, .unset] [(.ref b4), (.ref b3), (.ref b3)])) t → Steps p.tables e below (s₁.setTop (mkF m 0 #[iv p0, iv p1, iv p2, iv p3, .unset, .unset, .unset, .unset, .unset, .unset, .unset, .unset, .unset, .unset, .unset] [])) t := fun t k => S1 t (by
      show Steps p.tables e below (s₁.setTop (mkF m 16 #[iv p0, iv p1, iv p2, iv p3, iv (((1 : Int32) + (2 : Int32))), .unset, .unset, .unset, .unset, .unset, .unset, .unset, .unset, .unset, .unset] [(.int ((XT.ushr p3 (8 : Int32)) &&& (1 : Int32)))])) _
      refine XS.ifYes X0.here hx rfl (pc0 := 16) (pc' := 23) rfl (hb hby at_16) rfl (XT.i0_eq_t hc16_2) (by decide) (by decide) ?_
      refine XT.iconstV X0.here hx rfl (0 : Int32) (hb hby at_23) (by decide) ?_
      refine XS.istore X0.here hx rfl (hb hby at_24) rfl (l' := #[iv p0, iv p1, iv p2, iv p3, iv (((1 : Int32) + (2 : Int32))), iv (0 : Int32), .unset, .unset, .unset, .unset, .unset, .unset, .unset, .unset, .unset]) rfl ?_
      refine XS.iloadN X0.here hx rfl (hb hby at_26) rfl ?_
      show Steps p.tables e below (s₁.setTop (mkF m 27 #[iv p0, iv p1, iv p2, iv p3, iv (((1 : Int32) + (2 : Int32))), iv (0 : Int32), .unset, .unset, .unset, .unset, .unset, .unset, .unset, .unset, .unset] [(.int p3)])) _
      refine XT.bipushV X0.here hx rfl (9 : Int32) (hb hby at_27) (by decide) ?_
      refine XT.iushr X0.here hx rfl (hb hby at_29) rfl ?_
      refine XT.iconstV X0.here hx rfl (1 : Int32) (hb hby at_30) (by decide) ?_
      refine XS.iand X0.here hx rfl (hb hby at_31) rfl ?_
      show Steps p.tables e below (s₁.setTop (mkF m 32 #[iv p0, iv p1, iv p2, iv p3, iv (((1 : Int32) + (2 : Int32))), iv (0 : Int32), .unset, .unset, .unset, .unset, .unset, .unset, .unset, .unset, .unset] [(.int ((XT.ushr p3 (9 : Int32)) &&& (1 : Int32)))])) _
      rw [he]
      show Steps p.tables e below (s₁.setTop (mkF m 32 #[iv p0, iv p1, iv p2, iv p3, iv (((1 : Int32) + (2 : Int32))), iv (0 : Int32), .unset, .unset, .unset, .unset, .unset, .unset, .unset, .unset, .unset] [(.int (1 : Int32))])) _
      refine XS.ifNo X0.here hx rfl (hb hby at_32) rfl (XT.i0_eq_f (by decide)) ?_
      show Steps p.tables e below (s₁.setTop (mkF m 35 #[iv p0, iv p1, iv p2, iv p3, iv (((1 : Int32) + (2 : Int32))), iv (0 : Int32), .unset, .unset, .unset, .unset, .unset, .unset, .unset, .unset, .unset] [])) _
      refine XT.iconstV X0.here hx rfl (1 : Int32) (hb hby at_35) (by decide) ?_
      refine XS.goto X0.here hx rfl (pc0 := 36) (pc' := 40) rfl (hb hby at_36) (by decide) (by decide) ?_
      refine XS.istore X0.here hx rfl (hb hby at_40) rfl (l' := #[iv p0, iv p1, iv p2, iv p3, iv (((1 : Int32) + (2 : Int32))), iv (0 : Int32), iv (1 : Int32), .unset, .unset, .unset, .unset, .unset, .unset, .unset, .unset]) rfl ?_
      refine XS.iload X0.here hx rfl (hb hby at_42) rfl ?_
      refine XS.ifNo X0.here hx rfl (hb hby at_44) rfl (XT.i0_eq_f (by decide)) ?_
      refine st3 _ ?_
      show Steps p.tables e below (T3.setTop (mkF m 50 #[iv p0, iv p1, iv p2, iv p3, iv (((1 : Int32) + (2 : Int32))), iv (0 : Int32), iv (1 : Int32), .unset, .unset, .unset, .unset, .unset, .unset, .unset, .unset] [(.ref b3)])) _
      refine XS.dup X3.here hx rfl (hb hby at_50) rfl rfl ?_
      refine XT.iconstV X3.here hx rfl (0 : Int32) (hb hby at_51) (by decide) ?_
      refine st4 _ ?_
      exact k)
    obtain ⟨_, T8, Lc8, X8, hS8, hQ8, st8⟩ := own_specialI (W := 1) (y := mN4) X4 hx hZ rfl hown (hw _ (List.mem_of_getElem? (i := 5) rfl)) (hw _ (List.mem_of_getElem? (i := 6) rfl)) (hw _ (List.mem_of_getElem? (i := 7) rfl)) (hw _ (List.mem_of_getElem? (i := 3) rfl)) (by decide) (rmSi2_e l Z av0 hw [] b3 b4 k4 h4 n0 Z4 f5 f6 f7 ge_b3 V4 (fun b cl q => K4.2.1 b cl (hkp b cl q) nin0) hcH hcw) (by decide) (by decide) hI (g := (mkF m 54 #[iv p0, iv p1, iv p2, iv p3, iv (((1 : Int32) + (2 : Int32))), iv (0 : Int32), iv (1 : Int32), .unset, .unset, .unset, .unset, .unset, .unset, .unset, .unset] [(.ref b4), (.ref b3), (.ref b3)])) rfl (by rw [hml]; rfl) (a := b3) (argsL := [(.ref b4)]) (rest := [(.ref b3)]) (lenOf pd__C_V rfl) rfl (by show 2 * 0 + _ ≤ _; exact Nat.le_of_eq rfl) (hb hby at_54) rfl e4 (by decide : 2 + 2 ≤ _) (by decide : 4 + 4 ≤ _)
    have hZ := State.Warmed39.trans (t := s) hZ hS8.1
    have hown : (s.setVm T8.vm).vm.findClass "com/example/steady_courier/steadycourier/OptionReaderOptionPinLaw" = some m.cls := by rw [show (s.setVm T8.vm).vm = T8.vm from rfl, hS8.1.alike.findClass]; exact hown
    obtain ⟨rfl, N8q, K8, FC8, b8, kb8, FV8, V8⟩ := hQ8
    have N8 := Fr.app N0 N8q
    have e8 : T8.heap = T8.heap := rfl
    have Zk8 : n0 ≤ T8.heap.size := Nat.le_trans Z4 K8.1
    have Kk8 : Keep h0 T8.heap [] := K4.trans K8 (allS (Or.inr sz_b3) all0)
    have f10 := (f5.keep K8)
    have ne_b3_b8 : b3 ≠ b8 := f10.neArv V8 (hw _ (List.mem_of_getElem? (i := 2) rfl))
    obtain ⟨T11, h11, X11, e11, E11, A11, D11, -, st11⟩ := newO X8 hx hZ hown (hw _ (List.mem_of_getElem? (i := 1) rfl)) (hw _ (List.mem_of_getElem? (i := 2) rfl)) (hw _ (List.mem_of_getElem? (i := 3) rfl)) e8 (g := (mkF m 86 #[iv p0, iv p1, iv p2, iv p3, iv (((1 : Int32) + (2 : Int32))), iv (0 : Int32), iv (1 : Int32), rv b3, .unset, .unset, .unset, .unset, .unset, .unset, .unset] [])) rfl (hb hby at_86) (by decide) (by decide)
    obtain ⟨b11, g11⟩ : ∃ z, z = T8.heap.size := ⟨_, rfl⟩
    rw [← g11] at A11 D11 st11
    have ne_b3_b11 : b3 ≠ b11 := Nat.ne_of_lt (Nat.lt_of_lt_of_le f10.lt (Nat.le_of_eq g11.symm))
    have f12 := (V4.keep K8 (ninS (Ne.symm ne_b3_b4) nin0))
    have ne_b4_b11 : b4 ≠ b11 := Nat.ne_of_lt (Nat.lt_of_lt_of_le f12.lt (Nat.le_of_eq g11.symm))
    have ne_b8_b11 : b8 ≠ b11 := Nat.ne_of_lt (Nat.lt_of_lt_of_le V8.lt (Nat.le_of_eq g11.symm))
    have ge_b11 : n0 ≤ b11 := Nat.le_trans Zk8 (Nat.le_of_eq g11.symm)
    have sz_b11 : h0.size ≤ b11 := Nat.le_trans Kk8.1 (Nat.le_of_eq g11.symm)
    have Z11 : n0 ≤ h11.size := Nat.le_trans Zk8 E11.1
    have K11 : Keep h0 h11 [] := Kk8.ext E11
    have F11_coder : Fld Z h11 b11 "java/lang/String" "coder" "B" (.int (0 : Int32)) := D11 (Or.inr (hw _ (List.mem_of_getElem? (i := 28) rfl))) (ty := .byte) (by decide)
    have F11_value : Fld Z h11 b11 "java/lang/String" "value" "[B" .null := D11 (Or.inr (hw _ (List.mem_of_getElem? (i := 30) rfl))) (ty := (.array .byte)) (by decide)
    obtain ⟨T13, h13, k13, X13, e13, E13, A13, st13⟩ := newP X11 hx hZ (hw _ (List.mem_of_getElem? (i := 4) rfl)) e11 (g := (mkF m 91 #[iv p0, iv p1, iv p2, iv p3, iv (((1 : Int32) + (2 : Int32))), iv (0 : Int32), iv (1 : Int32), rv b3, .unset, .unset, .unset, .unset, .unset, .unset, .unset] [(.int (2 : Int32)), (.ref b11), (.ref b11)])) rfl (hb hby at_91) rfl (by decide) (cap := 2) (by decide) (by decide) (by decide) (by decide)
    obtain ⟨b13, g13⟩ : ∃ z, z = h11.size := ⟨_, rfl⟩
    rw [← g13] at A13 st13
    have ne_b11_b13 : b11 ≠ b13 := Nat.ne_of_lt (Nat.lt_of_lt_of_le A11.lt (Nat.le_of_eq g13.symm))
    have f14 := (f10.ext E11)
    have ne_b3_b13 : b3 ≠ b13 := Nat.ne_of_lt (Nat.lt_of_lt_of_le f14.lt (Nat.le_of_eq g13.symm))
    have f15 := (f12.ext E11)
    have ne_b4_b13 : b4 ≠ b13 := Nat.ne_of_lt (Nat.lt_of_lt_of_le f15.lt (Nat.le_of_eq g13.symm))
    have f16 := (V8.ext E11)
    have ne_b8_b13 : b8 ≠ b13 := Nat.ne_of_lt (Nat.lt_of_lt_of_le f16.lt (Nat.le_of_eq g13.symm))
    have ge_b13 : n0 ≤ b13 := Nat.le_trans Z11 (Nat.le_of_eq g13.symm)
    have sz_b13 : h0.size ≤ b13 := Nat.le_trans K11.1 (Nat.le_of_eq g13.symm)
    have Z13 : n0 ≤ h13.size := Nat.le_trans Z11 E13.1
    have K13 : Keep h0 h13 [] := K11.ext E13
    have V13 : Arv Z h13 b13 k13 .char (2 : Int32) [(.int (0 : Int32)), (.int (0 : Int32))] (.int (0 : Int32)) := (Arv.new A13 (by decide)).pad (pad_rep [] (.int (0 : Int32)) 2)
    obtain ⟨cl17, Ar17, qk17, Sz17, Ng17, Hs17, Gs17⟩ := id V13
    have hin17 : ¬ ((0 : Int32) < 0 ∨ cl17.slots.size ≤ ((0 : Int32)).toNatClampNeg) := inb_of Sz17 ⟨by decide, by decide⟩
    obtain ⟨T18, h18, X18, e18, W18, st18⟩ := stC X13 hx hZ e13 Ar17 (j := (0 : Int32)) hin17 (g := (mkF m 101 #[iv p0, iv p1, iv p2, iv p3, iv (((1 : Int32) + (2 : Int32))), iv (0 : Int32), iv (1 : Int32), rv b3, .unset, .unset, .unset, .unset, .unset, .unset, .unset] [(.int ((p1 &&& (255 : Int32))).toUInt32.toUInt16.toUInt32.toInt32), (.int (0 : Int32)), (.ref b13), (.ref b13), (.ref b11), (.ref b11)])) rfl rfl (hb hby at_101)
    have N18 := Fr.snoc X18 N8 ge_b13
    have Z18 : n0 ≤ h18.size := Nat.le_trans Z13 (Nat.le_of_eq W18.size.symm)
    have K18 : Keep h0 h18 [] := K13.wr W18 (Or.inr sz_b13)
    have V18 : Arv Z h18 b13 k13 .char (2 : Int32) [(.int (nar .char ((p1 &&& (255 : Int32))).toUInt32.toUInt16.toUInt32.toInt32)), (.int (0 : Int32))] (.int (0 : Int32)) := Arv.set Ar17 qk17 Sz17 Ng17 Hs17 Gs17 (fits_nar_char _) W18 0 rfl (Nat.le_of_ble_eq_true rfl)
    obtain ⟨cl19, Ar19, qk19, Sz19, Ng19, Hs19, Gs19⟩ := id V18
    have hin19 : ¬ ((1 : Int32) < 0 ∨ cl19.slots.size ≤ ((1 : Int32)).toNatClampNeg) := inb_of Sz19 ⟨by decide, by decide⟩
    obtain ⟨T20, h20, X20, e20, W20, st20⟩ := stC X18 hx hZ e18 Ar19 (j := (1 : Int32)) hin19 (g := (mkF m 106 #[iv p0, iv p1, iv p2, iv p3, iv (((1 : Int32) + (2 : Int32))), iv (0 : Int32), iv (1 : Int32), rv b3, .unset, .unset, .unset, .unset, .unset, .unset, .unset] [(.int (98 : Int32)), (.int (1 : Int32)), (.ref b13), (.ref b13), (.ref b11), (.ref b11)])) rfl rfl (hb hby at_106)
    have N20 := Fr.snoc X20 N18 ge_b13
    have Z20 : n0 ≤ h20.size := Nat.le_trans Z18 (Nat.le_of_eq W20.size.symm)
    have K20 : Keep h0 h20 [] := K18.wr W20 (Or.inr sz_b13)
    have V20 : Arv Z h20 b13 k13 .char (2 : Int32) [(.int (nar .char ((p1 &&& (255 : Int32))).toUInt32.toUInt16.toUInt32.toInt32)), (.int (nar .char (98 : Int32)))] (.int (0 : Int32)) := Arv.set Ar19 qk19 Sz19 Ng19 Hs19 Gs19 (fits_nar_char _) W20 1 rfl (Nat.le_of_ble_eq_true rfl)
    have f21 := (((A11.ext E13).wr W18).wr W20)
    have f22 := (((F11_value.ext E13).other W18 (Or.inl ne_b11_b13)).other W20 (Or.inl ne_b11_b13))
    have f23 := (((F11_coder.ext E13).other W18 (Or.inl ne_b11_b13)).other W20 (Or.inl ne_b11_b13))
    have f24 := (((((own_stak ((hS.ext E3).ext E4) K8 (allS (own_exns f5) all0)).ext E11).ext E13).wr W18).wr W20)
    obtain ⟨_, T25, Lc25, X25, hQ25, st25⟩ := own_special (W := 1) (y := mN4) X20 hx hZ rfl hown (hw _ (List.mem_of_getElem? (i := 5) rfl)) (hw _ (List.mem_of_getElem? (i := 6) rfl)) (hw _ (List.mem_of_getElem? (i := 7) rfl)) (hw _ (List.mem_of_getElem? (i := 3) rfl)) (by decide) (rmSi2_2 l Z av0 hw [] b11 b13 k13 wC (nar .char ((p1 &&& (255 : Int32))).toUInt32.toUInt16.toUInt32.toInt32) (nar .char (98 : Int32)) h20 n0 Z20 f21 f22 f23 ge_b11 V20 f24 hw0 (own_ch p1) (by decide)) (by decide) (by decide) (g := (mkF m 107 #[iv p0, iv p1, iv p2, iv p3, iv (((1 : Int32) + (2 : Int32))), iv (0 : Int32), iv (1 : Int32), rv b3, .unset, .unset, .unset, .unset, .unset, .unset, .unset] [(.ref b13), (.ref b11), (.ref b11)])) rfl (by rw [hml]; rfl) (a := b11) (argsL := [(.ref b13)]) (rest := [(.ref b11)]) (lenOf pd__C_V rfl) rfl (by show 2 * 0 + _ ≤ _; exact Nat.le_of_eq rfl) (hb hby at_107) rfl e20 (by decide : 6 + 1 ≤ _) (by decide : 14 + 2 ≤ _)
    obtain ⟨rfl, N25q, K25, FC25, b25, kb25, FV25, V25, gb25⟩ := hQ25
    have N25 := Fr.app N20 N25q
    have e25 : T25.heap = T25.heap := rfl
    have ne_b11_b25 : b11 ≠ b25 := Nat.ne_of_lt (Nat.lt_of_lt_of_le f21.lt gb25)
    have ne_b13_b25 : b13 ≠ b25 := Nat.ne_of_lt (Nat.lt_of_lt_of_le V20.lt gb25)
    have f26 := (((f14.ext E13).wr W18).wr W20)
    have ne_b3_b25 : b3 ≠ b25 := Nat.ne_of_lt (Nat.lt_of_lt_of_le f26.lt gb25)
    have f27 := (((f15.ext E13).other W18 ne_b4_b13).other W20 ne_b4_b13)
    have ne_b4_b25 : b4 ≠ b25 := Nat.ne_of_lt (Nat.lt_of_lt_of_le f27.lt gb25)
    have f28 := (((f16.ext E13).other W18 ne_b8_b13).other W20 ne_b8_b13)
    have ne_b8_b25 : b8 ≠ b25 := Nat.ne_of_lt (Nat.lt_of_lt_of_le f28.lt gb25)
    have ge_b25 : n0 ≤ b25 := Nat.le_trans Z20 gb25
    have sz_b25 : h0.size ≤ b25 := Nat.le_trans K20.1 gb25
    have Zk25 : n0 ≤ T25.heap.size := Nat.le_trans Z20 K25.1
    have Kk25 : Keep h0 T25.heap [] := K20.trans K25 (allS (Or.inr sz_b11) all0)
    obtain ⟨T29, h29, X29, e29, E29, A29, D29, -, st29⟩ := newO X25 hx hZ hown (hw _ (List.mem_of_getElem? (i := 1) rfl)) (hw _ (List.mem_of_getElem? (i := 2) rfl)) (hw _ (List.mem_of_getElem? (i := 3) rfl)) e25 (g := (mkF m 112 #[iv p0, iv p1, iv p2, iv p3, iv (((1 : Int32) + (2 : Int32))), iv (0 : Int32), iv (1 : Int32), rv b3, rv b11, .unset, .unset, .unset, .unset, .unset, .unset] [])) rfl (hb hby at_112) (by decide) (by decide)
    obtain ⟨b29, g29⟩ : ∃ z, z = T25.heap.size := ⟨_, rfl⟩
    rw [← g29] at A29 D29 st29
    have f30 := (f21.keep K25)
    have ne_b11_b29 : b11 ≠ b29 := Nat.ne_of_lt (Nat.lt_of_lt_of_le f30.lt (Nat.le_of_eq g29.symm))
    have f31 := (V20.keep K25 (ninS (Ne.symm ne_b11_b13) nin0))
    have ne_b13_b29 : b13 ≠ b29 := Nat.ne_of_lt (Nat.lt_of_lt_of_le f31.lt (Nat.le_of_eq g29.symm))
    have ne_b25_b29 : b25 ≠ b29 := Nat.ne_of_lt (Nat.lt_of_lt_of_le V25.lt (Nat.le_of_eq g29.symm))
    have f32 := (f26.keep K25)
    have ne_b3_b29 : b3 ≠ b29 := Nat.ne_of_lt (Nat.lt_of_lt_of_le f32.lt (Nat.le_of_eq g29.symm))
    have f33 := (f27.keep K25 (ninS ne_b4_b11 nin0))
    have ne_b4_b29 : b4 ≠ b29 := Nat.ne_of_lt (Nat.lt_of_lt_of_le f33.lt (Nat.le_of_eq g29.symm))
    have f34 := (f28.keep K25 (ninS ne_b8_b11 nin0))
    have ne_b8_b29 : b8 ≠ b29 := Nat.ne_of_lt (Nat.lt_of_lt_of_le f34.lt (Nat.le_of_eq g29.symm))
    have ge_b29 : n0 ≤ b29 := Nat.le_trans Zk25 (Nat.le_of_eq g29.symm)
    have sz_b29 : h0.size ≤ b29 := Nat.le_trans Kk25.1 (Nat.le_of_eq g29.symm)
    have Z29 : n0 ≤ h29.size := Nat.le_trans Zk25 E29.1
    have K29 : Keep h0 h29 [] := Kk25.ext E29
    have F29_coder : Fld Z h29 b29 "java/lang/String" "coder" "B" (.int (0 : Int32)) := D29 (Or.inr (hw _ (List.mem_of_getElem? (i := 28) rfl))) (ty := .byte) (by decide)
    have F29_value : Fld Z h29 b29 "java/lang/String" "value" "[B" .null := D29 (Or.inr (hw _ (List.mem_of_getElem? (i := 30) rfl))) (ty := (.array .byte)) (by decide)
    obtain ⟨T35, h35, k35, X35, e35, E35, A35, st35⟩ := newP X29 hx hZ (hw _ (List.mem_of_getElem? (i := 4) rfl)) e29 (g := (mkF m 117 #[iv p0, iv p1, iv p2, iv p3, iv (((1 : Int32) + (2 : Int32))), iv (0 : Int32), iv (1 : Int32), rv b3, rv b11, .unset, .unset, .unset, .unset, .unset, .unset] [(.int (2 : Int32)), (.ref b29), (.ref b29)])) rfl (hb hby at_117) rfl (by decide) (cap := 2) (by decide) (by decide) (by decide) (by decide)
    obtain ⟨b35, g35⟩ : ∃ z, z = h29.size := ⟨_, rfl⟩
    rw [← g35] at A35 st35
    have f36 := (f30.ext E29)
    have ne_b11_b35 : b11 ≠ b35 := Nat.ne_of_lt (Nat.lt_of_lt_of_le f36.lt (Nat.le_of_eq g35.symm))
    have f37 := (f31.ext E29)
    have ne_b13_b35 : b13 ≠ b35 := Nat.ne_of_lt (Nat.lt_of_lt_of_le f37.lt (Nat.le_of_eq g35.symm))
    have f38 := (V25.ext E29)
    have ne_b25_b35 : b25 ≠ b35 := Nat.ne_of_lt (Nat.lt_of_lt_of_le f38.lt (Nat.le_of_eq g35.symm))
    have ne_b29_b35 : b29 ≠ b35 := Nat.ne_of_lt (Nat.lt_of_lt_of_le A29.lt (Nat.le_of_eq g35.symm))
    have f39 := (f32.ext E29)
    have ne_b3_b35 : b3 ≠ b35 := Nat.ne_of_lt (Nat.lt_of_lt_of_le f39.lt (Nat.le_of_eq g35.symm))
    have f40 := (f33.ext E29)
    have ne_b4_b35 : b4 ≠ b35 := Nat.ne_of_lt (Nat.lt_of_lt_of_le f40.lt (Nat.le_of_eq g35.symm))
    have f41 := (f34.ext E29)
    have ne_b8_b35 : b8 ≠ b35 := Nat.ne_of_lt (Nat.lt_of_lt_of_le f41.lt (Nat.le_of_eq g35.symm))
    have ge_b35 : n0 ≤ b35 := Nat.le_trans Z29 (Nat.le_of_eq g35.symm)
    have sz_b35 : h0.size ≤ b35 := Nat.le_trans K29.1 (Nat.le_of_eq g35.symm)
    have Z35 : n0 ≤ h35.size := Nat.le_trans Z29 E35.1
    have K35 : Keep h0 h35 [] := K29.ext E35
    have V35 : Arv Z h35 b35 k35 .char (2 : Int32) [(.int (0 : Int32)), (.int (0 : Int32))] (.int (0 : Int32)) := (Arv.new A35 (by decide)).pad (pad_rep [] (.int (0 : Int32)) 2)
    obtain ⟨cl42, Ar42, qk42, Sz42, Ng42, Hs42, Gs42⟩ := id V35
    have hin42 : ¬ ((0 : Int32) < 0 ∨ cl42.slots.size ≤ ((0 : Int32)).toNatClampNeg) := inb_of Sz42 ⟨by decide, by decide⟩
    obtain ⟨T43, h43, X43, e43, W43, st43⟩ := stC X35 hx hZ e35 Ar42 (j := (0 : Int32)) hin42 (g := (mkF m 127 #[iv p0, iv p1, iv p2, iv p3, iv (((1 : Int32) + (2 : Int32))), iv (0 : Int32), iv (1 : Int32), rv b3, rv b11, .unset, .unset, .unset, .unset, .unset, .unset] [(.int ((p2 &&& (255 : Int32))).toUInt32.toUInt16.toUInt32.toInt32), (.int (0 : Int32)), (.ref b35), (.ref b35), (.ref b29), (.ref b29)])) rfl rfl (hb hby at_127)
    have N43 := Fr.snoc X43 N25 ge_b35
    have Z43 : n0 ≤ h43.size := Nat.le_trans Z35 (Nat.le_of_eq W43.size.symm)
    have K43 : Keep h0 h43 [] := K35.wr W43 (Or.inr sz_b35)
    have V43 : Arv Z h43 b35 k35 .char (2 : Int32) [(.int (nar .char ((p2 &&& (255 : Int32))).toUInt32.toUInt16.toUInt32.toInt32)), (.int (0 : Int32))] (.int (0 : Int32)) := Arv.set Ar42 qk42 Sz42 Ng42 Hs42 Gs42 (fits_nar_char _) W43 0 rfl (Nat.le_of_ble_eq_true rfl)
    obtain ⟨cl44, Ar44, qk44, Sz44, Ng44, Hs44, Gs44⟩ := id V43
    have hin44 : ¬ ((1 : Int32) < 0 ∨ cl44.slots.size ≤ ((1 : Int32)).toNatClampNeg) := inb_of Sz44 ⟨by decide, by decide⟩
    obtain ⟨T45, h45, X45, e45, W45, st45⟩ := stC X43 hx hZ e43 Ar44 (j := (1 : Int32)) hin44 (g := (mkF m 132 #[iv p0, iv p1, iv p2, iv p3, iv (((1 : Int32) + (2 : Int32))), iv (0 : Int32), iv (1 : Int32), rv b3, rv b11, .unset, .unset, .unset, .unset, .unset, .unset] [(.int (99 : Int32)), (.int (1 : Int32)), (.ref b35), (.ref b35), (.ref b29), (.ref b29)])) rfl rfl (hb hby at_132)
    have N45 := Fr.snoc X45 N43 ge_b35
    have Z45 : n0 ≤ h45.size := Nat.le_trans Z43 (Nat.le_of_eq W45.size.symm)
    have K45 : Keep h0 h45 [] := K43.wr W45 (Or.inr sz_b35)
    have V45 : Arv Z h45 b35 k35 .char (2 : Int32) [(.int (nar .char ((p2 &&& (255 : Int32))).toUInt32.toUInt16.toUInt32.toInt32)), (.int (nar .char (99 : Int32)))] (.int (0 : Int32)) := Arv.set Ar44 qk44 Sz44 Ng44 Hs44 Gs44 (fits_nar_char _) W45 1 rfl (Nat.le_of_ble_eq_true rfl)
    have f46 := (((A29.ext E35).wr W43).wr W45)
    have f47 := (((F29_value.ext E35).other W43 (Or.inl ne_b29_b35)).other W45 (Or.inl ne_b29_b35))
    have f48 := (((F29_coder.ext E35).other W43 (Or.inl ne_b29_b35)).other W45 (Or.inl ne_b29_b35))
    have f49 := (((((own_stak f24 K25 (allS (own_exns f21) all0)).ext E29).ext E35).wr W43).wr W45)
    obtain ⟨_, T50, Lc50, X50, hQ50, st50⟩ := own_special (W := 1) (y := mN4) X45 hx hZ rfl hown (hw _ (List.mem_of_getElem? (i := 5) rfl)) (hw _ (List.mem_of_getElem? (i := 6) rfl)) (hw _ (List.mem_of_getElem? (i := 7) rfl)) (hw _ (List.mem_of_getElem? (i := 3) rfl)) (by decide) (rmSi2_2 l Z av0 hw [] b29 b35 k35 wC (nar .char ((p2 &&& (255 : Int32))).toUInt32.toUInt16.toUInt32.toInt32) (nar .char (99 : Int32)) h45 n0 Z45 f46 f47 f48 ge_b29 V45 f49 hw0 (own_ch p2) (by decide)) (by decide) (by decide) (g := (mkF m 133 #[iv p0, iv p1, iv p2, iv p3, iv (((1 : Int32) + (2 : Int32))), iv (0 : Int32), iv (1 : Int32), rv b3, rv b11, .unset, .unset, .unset, .unset, .unset, .unset] [(.ref b35), (.ref b29), (.ref b29)])) rfl (by rw [hml]; rfl) (a := b29) (argsL := [(.ref b35)]) (rest := [(.ref b29)]) (lenOf pd__C_V rfl) rfl (by show 2 * 0 + _ ≤ _; exact Nat.le_of_eq rfl) (hb hby at_133) rfl e45 (by decide : 9 + 1 ≤ _) (by decide : 22 + 2 ≤ _)
    obtain ⟨rfl, N50q, K50, FC50, b50, kb50, FV50, V50, gb50⟩ := hQ50
    have N50 := Fr.app N45 N50q
    have e50 : T50.heap = T50.heap := rfl
    have f51 := (((f36.ext E35).wr W43).wr W45)
    have ne_b11_b50 : b11 ≠ b50 := Nat.ne_of_lt (Nat.lt_of_lt_of_le f51.lt gb50)
    have f52 := (((f37.ext E35).other W43 ne_b13_b35).other W45 ne_b13_b35)
    have ne_b13_b50 : b13 ≠ b50 := Nat.ne_of_lt (Nat.lt_of_lt_of_le f52.lt gb50)
    have f53 := (((f38.ext E35).other W43 ne_b25_b35).other W45 ne_b25_b35)
    have ne_b25_b50 : b25 ≠ b50 := Nat.ne_of_lt (Nat.lt_of_lt_of_le f53.lt gb50)
    have ne_b29_b50 : b29 ≠ b50 := Nat.ne_of_lt (Nat.lt_of_lt_of_le f46.lt gb50)
    have f54 := (((f39.ext E35).wr W43).wr W45)
    have ne_b3_b50 : b3 ≠ b50 := Nat.ne_of_lt (Nat.lt_of_lt_of_le f54.lt gb50)
    have ne_b35_b50 : b35 ≠ b50 := Nat.ne_of_lt (Nat.lt_of_lt_of_le V45.lt gb50)
    have f55 := (((f40.ext E35).other W43 ne_b4_b35).other W45 ne_b4_b35)
    have ne_b4_b50 : b4 ≠ b50 := Nat.ne_of_lt (Nat.lt_of_lt_of_le f55.lt gb50)
    have f56 := (((f41.ext E35).other W43 ne_b8_b35).other W45 ne_b8_b35)
    have ne_b8_b50 : b8 ≠ b50 := Nat.ne_of_lt (Nat.lt_of_lt_of_le f56.lt gb50)
    have ge_b50 : n0 ≤ b50 := Nat.le_trans Z45 gb50
    have sz_b50 : h0.size ≤ b50 := Nat.le_trans K45.1 gb50
    have Zk50 : n0 ≤ T50.heap.size := Nat.le_trans Z45 K50.1
    have Kk50 : Keep h0 T50.heap [] := K45.trans K50 (allS (Or.inr sz_b29) all0)
    obtain ⟨T57, h57, k57, X57, e57, E57, A57, O57, st57⟩ := newR X50 hx hZ hown (hw _ (List.mem_of_getElem? (i := 1) rfl)) (hw _ (List.mem_of_getElem? (i := 31) rfl)) e50 (g := (mkF m 140 #[iv p0, iv p1, iv p2, iv p3, iv (((1 : Int32) + (2 : Int32))), iv (0 : Int32), iv (1 : Int32), rv b3, rv b11, rv b29, .unset, .unset, .unset, .unset, .unset] [(.int ((1 : Int32) + (2 : Int32)))])) rfl (hb hby at_140) rfl (by decide) (cap := 3) (by decide) (by decide) (by decide) (by decide)
    obtain ⟨b57, g57⟩ : ∃ z, z = T50.heap.size := ⟨_, rfl⟩
    rw [← g57] at A57 st57
    have f58 := (f51.keep K50)
    have ne_b11_b57 : b11 ≠ b57 := Nat.ne_of_lt (Nat.lt_of_lt_of_le f58.lt (Nat.le_of_eq g57.symm))
    have f59 := (f52.keep K50 (ninS ne_b13_b29 nin0))
    have ne_b13_b57 : b13 ≠ b57 := Nat.ne_of_lt (Nat.lt_of_lt_of_le f59.lt (Nat.le_of_eq g57.symm))
    have f60 := (f53.keep K50 (ninS ne_b25_b29 nin0))
    have ne_b25_b57 : b25 ≠ b57 := Nat.ne_of_lt (Nat.lt_of_lt_of_le f60.lt (Nat.le_of_eq g57.symm))
    have f61 := (f46.keep K50)
    have ne_b29_b57 : b29 ≠ b57 := Nat.ne_of_lt (Nat.lt_of_lt_of_le f61.lt (Nat.le_of_eq g57.symm))
    have f62 := (f54.keep K50)
    have ne_b3_b57 : b3 ≠ b57 := Nat.ne_of_lt (Nat.lt_of_lt_of_le f62.lt (Nat.le_of_eq g57.symm))
    have f63 := (V45.keep K50 (ninS (Ne.symm ne_b29_b35) nin0))
    have ne_b35_b57 : b35 ≠ b57 := Nat.ne_of_lt (Nat.lt_of_lt_of_le f63.lt (Nat.le_of_eq g57.symm))
    have f64 := (f55.keep K50 (ninS ne_b4_b29 nin0))
    have ne_b4_b57 : b4 ≠ b57 := Nat.ne_of_lt (Nat.lt_of_lt_of_le f64.lt (Nat.le_of_eq g57.symm))
    have ne_b50_b57 : b50 ≠ b57 := Nat.ne_of_lt (Nat.lt_of_lt_of_le V50.lt (Nat.le_of_eq g57.symm))
    have f65 := (f56.keep K50 (ninS ne_b8_b29 nin0))
    have ne_b8_b57 : b8 ≠ b57 := Nat.ne_of_lt (Nat.lt_of_lt_of_le f65.lt (Nat.le_of_eq g57.symm))
    have ge_b57 : n0 ≤ b57 := Nat.le_trans Zk50 (Nat.le_of_eq g57.symm)
    have sz_b57 : h0.size ≤ b57 := Nat.le_trans Kk50.1 (Nat.le_of_eq g57.symm)
    have Z57 : n0 ≤ h57.size := Nat.le_trans Zk50 E57.1
    have K57 : Keep h0 h57 [] := Kk50.ext E57
    have V57 : Arv Z h57 b57 k57 (.object "java/lang/String") ((1 : Int32) + (2 : Int32)) [.null, .null, .null] .null := (Arv.new A57 (by decide)).pad (pad_rep [] .null 3)
    obtain ⟨cl66, Ar66, qk66, Sz66, Ng66, Hs66, Gs66⟩ := id V57
    have hin66 : ¬ ((0 : Int32) < 0 ∨ cl66.slots.size ≤ ((0 : Int32)).toNatClampNeg) := inb_of Sz66 ⟨by decide, by decide⟩
    have f67 := (f62.ext E57)
    obtain ⟨T68, h68, X68, e68, W68, st68⟩ := stR X57 hx hZ e57 Ar66 (j := (0 : Int32)) hin66 rfl (Sto.ofV Ar66 qk66 O57 (Ins.self f67)) (g := (mkF m 150 #[iv p0, iv p1, iv p2, iv p3, iv (((1 : Int32) + (2 : Int32))), iv (0 : Int32), iv (1 : Int32), rv b3, rv b11, rv b29, rv b57, .unset, .unset, .unset, .unset] [(.ref b3), (.int (0 : Int32)), (.ref b57)])) rfl rfl (hb hby at_150)
    have N68 := Fr.snoc X68 N50 ge_b57
    have Z68 : n0 ≤ h68.size := Nat.le_trans Z57 (Nat.le_of_eq W68.size.symm)
    have K68 : Keep h0 h68 [] := K57.wr W68 (Or.inr sz_b57)
    have V68 : Arv Z h68 b57 k57 (.object "java/lang/String") ((1 : Int32) + (2 : Int32)) [(.ref b3), .null, .null] .null := Arv.set Ar66 qk66 Sz66 Ng66 Hs66 Gs66 rfl W68 0 rfl (Nat.le_of_ble_eq_true rfl)
    obtain ⟨cl69, Ar69, qk69, Sz69, Ng69, Hs69, Gs69⟩ := id V68
    have hin69 : ¬ ((1 : Int32) < 0 ∨ cl69.slots.size ≤ ((1 : Int32)).toNatClampNeg) := inb_of Sz69 ⟨by decide, by decide⟩
    have f70 := ((f58.ext E57).wr W68)
    obtain ⟨T71, h71, X71, e71, W71, st71⟩ := stR X68 hx hZ e68 Ar69 (j := (1 : Int32)) hin69 rfl (Sto.ofV Ar69 qk69 O57 (Ins.self f70)) (g := (mkF m 162 #[iv p0, iv p1, iv p2, iv p3, iv (((1 : Int32) + (2 : Int32))), iv (0 : Int32), iv (1 : Int32), rv b3, rv b11, rv b29, rv b57, .unset, .unset, .unset, .unset] [(.ref b11), (.int (1 : Int32)), (.ref b57)])) rfl rfl (hb hby at_162)
    have N71 := Fr.snoc X71 N68 ge_b57
    have Z71 : n0 ≤ h71.size := Nat.le_trans Z68 (Nat.le_of_eq W71.size.symm)
    have K71 : Keep h0 h71 [] := K68.wr W71 (Or.inr sz_b57)
    have V71 : Arv Z h71 b57 k57 (.object "java/lang/String") ((1 : Int32) + (2 : Int32)) [(.ref b3), (.ref b11), .null] .null := Arv.set Ar69 qk69 Sz69 Ng69 Hs69 Gs69 rfl W71 1 rfl (Nat.le_of_ble_eq_true rfl)
    obtain ⟨cl72, Ar72, qk72, Sz72, Ng72, Hs72, Gs72⟩ := id V71
    have hin72 : ¬ ((2 : Int32) < 0 ∨ cl72.slots.size ≤ ((2 : Int32)).toNatClampNeg) := inb_of Sz72 ⟨by decide, by decide⟩
    have f73 := (((f61.ext E57).wr W68).wr W71)
    obtain ⟨T74, h74, X74, e74, W74, st74⟩ := stR X71 hx hZ e71 Ar72 (j := (2 : Int32)) hin72 rfl (Sto.ofV Ar72 qk72 O57 (Ins.self f73)) (g := (mkF m 174 #[iv p0, iv p1, iv p2, iv p3, iv (((1 : Int32) + (2 : Int32))), iv (0 : Int32), iv (1 : Int32), rv b3, rv b11, rv b29, rv b57, .unset, .unset, .unset, .unset] [(.ref b29), (.int (2 : Int32)), (.ref b57)])) rfl rfl (hb hby at_174)
    have N74 := Fr.snoc X74 N71 ge_b57
    have Z74 : n0 ≤ h74.size := Nat.le_trans Z71 (Nat.le_of_eq W74.size.symm)
    have K74 : Keep h0 h74 [] := K71.wr W74 (Or.inr sz_b57)
    have V74 : Arv Z h74 b57 k57 (.object "java/lang/String") ((1 : Int32) + (2 : Int32)) [(.ref b3), (.ref b11), (.ref b29)] .null := Arv.set Ar72 qk72 Sz72 Ng72 Hs72 Gs72 rfl W74 2 rfl (Nat.le_of_ble_eq_true rfl)
    obtain ⟨T75, h75, X75, e75, E75, A75, D75, -, st75⟩ := newO X74 hx hZ hown (hw _ (List.mem_of_getElem? (i := 32) rfl)) (hw _ (List.mem_of_getElem? (i := 33) rfl)) (hw _ (List.mem_of_getElem? (i := 34) rfl)) e74 (g := (mkF m 175 #[iv p0, iv p1, iv p2, iv p3, iv (((1 : Int32) + (2 : Int32))), iv (0 : Int32), iv (1 : Int32), rv b3, rv b11, rv b29, rv b57, .unset, .unset, .unset, .unset] [])) rfl (hb hby at_175) (by decide) (by decide)
    obtain ⟨b75, g75⟩ : ∃ z, z = h74.size := ⟨_, rfl⟩
    rw [← g75] at A75 D75 st75
    have f76 := ((f70.wr W71).wr W74)
    have ne_b11_b75 : b11 ≠ b75 := Nat.ne_of_lt (Nat.lt_of_lt_of_le f76.lt (Nat.le_of_eq g75.symm))
    have f77 := ((((f59.ext E57).other W68 ne_b13_b57).other W71 ne_b13_b57).other W74 ne_b13_b57)
    have ne_b13_b75 : b13 ≠ b75 := Nat.ne_of_lt (Nat.lt_of_lt_of_le f77.lt (Nat.le_of_eq g75.symm))
    have f78 := ((((f60.ext E57).other W68 ne_b25_b57).other W71 ne_b25_b57).other W74 ne_b25_b57)
    have ne_b25_b75 : b25 ≠ b75 := Nat.ne_of_lt (Nat.lt_of_lt_of_le f78.lt (Nat.le_of_eq g75.symm))
    have f79 := (f73.wr W74)
    have ne_b29_b75 : b29 ≠ b75 := Nat.ne_of_lt (Nat.lt_of_lt_of_le f79.lt (Nat.le_of_eq g75.symm))
    have f80 := (((f67.wr W68).wr W71).wr W74)
    have ne_b3_b75 : b3 ≠ b75 := Nat.ne_of_lt (Nat.lt_of_lt_of_le f80.lt (Nat.le_of_eq g75.symm))
    have f81 := ((((f63.ext E57).other W68 ne_b35_b57).other W71 ne_b35_b57).other W74 ne_b35_b57)
    have ne_b35_b75 : b35 ≠ b75 := Nat.ne_of_lt (Nat.lt_of_lt_of_le f81.lt (Nat.le_of_eq g75.symm))
    have f82 := ((((f64.ext E57).other W68 ne_b4_b57).other W71 ne_b4_b57).other W74 ne_b4_b57)
    have ne_b4_b75 : b4 ≠ b75 := Nat.ne_of_lt (Nat.lt_of_lt_of_le f82.lt (Nat.le_of_eq g75.symm))
    have f83 := ((((V50.ext E57).other W68 ne_b50_b57).other W71 ne_b50_b57).other W74 ne_b50_b57)
    have ne_b50_b75 : b50 ≠ b75 := Nat.ne_of_lt (Nat.lt_of_lt_of_le f83.lt (Nat.le_of_eq g75.symm))
    have ne_b57_b75 : b57 ≠ b75 := Nat.ne_of_lt (Nat.lt_of_lt_of_le V74.lt (Nat.le_of_eq g75.symm))
    have f84 := ((((f65.ext E57).other W68 ne_b8_b57).other W71 ne_b8_b57).other W74 ne_b8_b57)
    have ne_b8_b75 : b8 ≠ b75 := Nat.ne_of_lt (Nat.lt_of_lt_of_le f84.lt (Nat.le_of_eq g75.symm))
    have ge_b75 : n0 ≤ b75 := Nat.le_trans Z74 (Nat.le_of_eq g75.symm)
    have sz_b75 : h0.size ≤ b75 := Nat.le_trans K74.1 (Nat.le_of_eq g75.symm)
    have Z75 : n0 ≤ h75.size := Nat.le_trans Z74 E75.1
    have K75 : Keep h0 h75 [] := K74.ext E75
    have F75_arguments : Fld Z h75 b75 "com/example/steady_courier/steadycourier/OptionReader" "arguments" "[Ljava/lang/String;" .null := D75 (Or.inr (hw _ (List.mem_of_getElem? (i := 40) rfl))) (ty := (.array (.object "java/lang/String"))) (by decide)
    have F75_next : Fld Z h75 b75 "com/example/steady_courier/steadycourier/OptionReader" "next" "I" (.int (0 : Int32)) := D75 (Or.inl (hw _ (List.mem_of_getElem? (i := 47) rfl))) (ty := .int) (by decide)
    obtain ⟨_, T85, Lc85, X85, hQ85, st85⟩ := own_special (W := 1) (y := mN5) X75 hx hZ rfl hown (hw _ (List.mem_of_getElem? (i := 35) rfl)) (hw _ (List.mem_of_getElem? (i := 36) rfl)) (hw _ (List.mem_of_getElem? (i := 37) rfl)) (hw _ (List.mem_of_getElem? (i := 34) rfl)) (by decide) (rmInit l Z av0 hw [] b75 b57 h75 n0 Z75 A75 F75_arguments F75_next ge_b75) (by decide) (by decide) (g := (mkF m 181 #[iv p0, iv p1, iv p2, iv p3, iv (((1 : Int32) + (2 : Int32))), iv (0 : Int32), iv (1 : Int32), rv b3, rv b11, rv b29, rv b57, .unset, .unset, .unset, .unset] [(.ref b57), (.ref b75), (.ref b75)])) rfl (by rw [hml]; rfl) (a := b75) (argsL := [(.ref b57)]) (rest := [(.ref b75)]) (lenOf pd__Ljava_lang_String_V rfl) rfl (by show 2 * 0 + _ ≤ _; exact Nat.le_of_eq rfl) (hb hby at_181) rfl e75 (by decide : 12 + 0 ≤ _) (by decide : 29 + 0 ≤ _)
    obtain ⟨rfl, N85q, K85, FA85, FN85⟩ := hQ85
    have N85 := Fr.app N74 N85q
    have e85 : T85.heap = T85.heap := rfl
    have Zk85 : n0 ≤ T85.heap.size := Nat.le_trans Z75 K85.1
    have Kk85 : Keep h0 T85.heap [] := K75.trans K85 (allS (Or.inr sz_b75) all0)
    have f86 := ((V74.ext E75).keep K85 (ninS ne_b57_b75 nin0))
    have f88 := (A75.keep K85)
    obtain ⟨_, T87, Lc87, X87, hQ87, st87⟩ := own_virtual (W := 0) (y := mN6) (z := mN6) X85 hx hZ hown (hw _ (List.mem_of_getElem? (i := 41) rfl)) (hw _ (List.mem_of_getElem? (i := 42) rfl)) (notFace_of_selects (args := #[]) (mvT hZ (hw _ (List.mem_of_getElem? (i := 44) rfl)))) (hw _ (List.mem_of_getElem? (i := 44) rfl)) (hw _ (List.mem_of_getElem? (i := 43) rfl)) (hw _ (List.mem_of_getElem? (i := 45) rfl)) (hw _ (List.mem_of_getElem? (i := 34) rfl)) (by decide) (rmHas l Z av0 hw [] b75 b57 k57 ((1 : Int32) + (2 : Int32)) [(.ref b3), (.ref b11), (.ref b29)] (0 : Int32) T85.heap n0 Zk85 FA85 FN85 f86) (by decide) (by decide) f88 (g := (mkF m 188 #[iv p0, iv p1, iv p2, iv p3, iv (((1 : Int32) + (2 : Int32))), iv (0 : Int32), iv (1 : Int32), rv b3, rv b11, rv b29, rv b57, rv b75, .unset, .unset, .unset] [(.ref b75)])) rfl (by rw [hml]; rfl) (argsL := []) (rest := []) (lenOf pd__Z rfl) rfl (by show 2 * 0 + _ ≤ _; exact Nat.le_of_eq rfl) (hb hby at_188) rfl e85 (by decide : 12 + 0 ≤ _) (by decide : 29 + 0 ≤ _)
    obtain ⟨rfl, N87q, hh87⟩ := hQ87
    have N87 := Fr.app N85 N87q
    have e87 : T87.heap = T85.heap := hh87
    obtain ⟨_, T89, Lc89, X89, hQ89, st89⟩ := own_virtual (W := 0) (y := mN7) (z := mN7) X87 hx hZ hown (hw _ (List.mem_of_getElem? (i := 48) rfl)) (hw _ (List.mem_of_getElem? (i := 49) rfl)) (notFace_of_selects (args := #[]) (mvT hZ (hw _ (List.mem_of_getElem? (i := 51) rfl)))) (hw _ (List.mem_of_getElem? (i := 51) rfl)) (hw _ (List.mem_of_getElem? (i := 50) rfl)) (hw _ (List.mem_of_getElem? (i := 52) rfl)) (hw _ (List.mem_of_getElem? (i := 34) rfl)) (by decide) (rmOpt l Z av0 hw [] b75 b57 k57 ((1 : Int32) + (2 : Int32)) [(.ref b3), (.ref b11), (.ref b29)] (0 : Int32) b3 T85.heap n0 Zk85 FA85 FN85 f86 f88 ge_b75 (Ne.symm ne_b57_b75) (by decide) rfl) (by decide) (by decide) f88 (g := (mkF m 198 #[iv p0, iv p1, iv p2, iv p3, iv (((1 : Int32) + (2 : Int32))), iv (0 : Int32), iv (1 : Int32), rv b3, rv b11, rv b29, rv b57, rv b75, .unset, .unset, .unset] [(.ref b75)])) rfl (by rw [hml]; rfl) (argsL := []) (rest := []) (lenOf pd__Ljava_lang_String_ rfl) rfl (by show 2 * 0 + _ ≤ _; exact Nat.le_of_eq rfl) (hb hby at_198) rfl e87 (by decide : 12 + 0 ≤ _) (by decide : 29 + 0 ≤ _)
    obtain ⟨rfl, N89q, K89, FN89, FA89⟩ := hQ89
    have N89 := Fr.app N87 N89q
    have e89 : T89.heap = T89.heap := rfl
    have Zk89 : n0 ≤ T89.heap.size := Nat.le_trans Zk85 K89.1
    have Kk89 : Keep h0 T89.heap [] := Kk85.trans K89 (allS (Or.inr sz_b75) all0)
    have f91 := (((f80.ext E75).keep K85).keep K89)
    obtain ⟨_, T90, Lc90, X90, hQ90, st90⟩ := own_virtual (W := 0) (y := mN9) (z := mN9) X89 hx hZ hown (hw _ (List.mem_of_getElem? (i := 53) rfl)) (hw _ (List.mem_of_getElem? (i := 54) rfl)) (notFace_of_selects (args := #[]) (mvT hZ (hw _ (List.mem_of_getElem? (i := 56) rfl)))) (hw _ (List.mem_of_getElem? (i := 56) rfl)) (hw _ (List.mem_of_getElem? (i := 55) rfl)) (hw _ (List.mem_of_getElem? (i := 57) rfl)) (hw _ (List.mem_of_getElem? (i := 3) rfl)) (by decide) (rmSame l Z av0 hw [] b3 T89.heap n0 Zk89 ) (by decide) (by decide) f91 (g := (mkF m 207 #[iv p0, iv p1, iv p2, iv p3, iv (((1 : Int32) + (2 : Int32))), iv (0 : Int32), iv (1 : Int32), rv b3, rv b11, rv b29, rv b57, rv b75, rv b3, .unset, .unset] [(.ref b3), (.ref b3)])) rfl (by rw [hml]; rfl) (argsL := [(.ref b3)]) (rest := []) (lenOf pd__Ljava_lang_Object_Z rfl) rfl (by show 2 * 0 + _ ≤ _; exact Nat.le_of_eq rfl) (hb hby at_207) rfl e89 (by decide : 12 + 0 ≤ _) (by decide : 29 + 0 ≤ _)
    obtain ⟨rfl, N90q, hh90⟩ := hQ90
    have N90 := Fr.app N89 N90q
    have e90 : T90.heap = T89.heap := hh90
    have f92 := (f86.keep K89 (ninS ne_b57_b75 nin0))
    have f94 := (f88.keep K89)
    obtain ⟨_, T93, Lc93, X93, hQ93, st93⟩ := own_virtual (W := 0) (y := mN6) (z := mN6) X90 hx hZ hown (hw _ (List.mem_of_getElem? (i := 41) rfl)) (hw _ (List.mem_of_getElem? (i := 42) rfl)) (notFace_of_selects (args := #[]) (mvT hZ (hw _ (List.mem_of_getElem? (i := 44) rfl)))) (hw _ (List.mem_of_getElem? (i := 44) rfl)) (hw _ (List.mem_of_getElem? (i := 43) rfl)) (hw _ (List.mem_of_getElem? (i := 45) rfl)) (hw _ (List.mem_of_getElem? (i := 34) rfl)) (by decide) (rmHas l Z av0 hw [] b75 b57 k57 ((1 : Int32) + (2 : Int32)) [(.ref b3), (.ref b11), (.ref b29)] ((0 : Int32) + (1 : Int32)) T89.heap n0 Zk89 FA89 FN89 f92) (by decide) (by decide) f94 (g := (mkF m 217 #[iv p0, iv p1, iv p2, iv p3, iv (((1 : Int32) + (2 : Int32))), iv (0 : Int32), iv (1 : Int32), rv b3, rv b11, rv b29, rv b57, rv b75, rv b3, .unset, .unset] [(.ref b75)])) rfl (by rw [hml]; rfl) (argsL := []) (rest := []) (lenOf pd__Z rfl) rfl (by show 2 * 0 + _ ≤ _; exact Nat.le_of_eq rfl) (hb hby at_217) rfl e90 (by decide : 12 + 0 ≤ _) (by decide : 29 + 0 ≤ _)
    obtain ⟨rfl, N93q, hh93⟩ := hQ93
    have N93 := Fr.app N90 N93q
    have e93 : T93.heap = T89.heap := hh93
    obtain ⟨_, T95, Lc95, X95, hQ95, st95⟩ := own_virtual (W := 0) (y := mN7) (z := mN7) X93 hx hZ hown (hw _ (List.mem_of_getElem? (i := 48) rfl)) (hw _ (List.mem_of_getElem? (i := 49) rfl)) (notFace_of_selects (args := #[]) (mvT hZ (hw _ (List.mem_of_getElem? (i := 51) rfl)))) (hw _ (List.mem_of_getElem? (i := 51) rfl)) (hw _ (List.mem_of_getElem? (i := 50) rfl)) (hw _ (List.mem_of_getElem? (i := 52) rfl)) (hw _ (List.mem_of_getElem? (i := 34) rfl)) (by decide) (rmOpt l Z av0 hw [] b75 b57 k57 ((1 : Int32) + (2 : Int32)) [(.ref b3), (.ref b11), (.ref b29)] ((0 : Int32) + (1 : Int32)) b11 T89.heap n0 Zk89 FA89 FN89 f92 f94 ge_b75 (Ne.symm ne_b57_b75) (by decide) rfl) (by decide) (by decide) f94 (g := (mkF m 261 #[iv p0, iv p1, iv p2, iv p3, iv (((1 : Int32) + (2 : Int32))), iv (0 : Int32), iv (1 : Int32), rv b3, rv b11, rv b29, rv b57, rv b75, rv b3, .unset, .unset] [(.ref b75)])) rfl (by rw [hml]; rfl) (argsL := []) (rest := []) (lenOf pd__Ljava_lang_String_ rfl) rfl (by show 2 * 0 + _ ≤ _; exact Nat.le_of_eq rfl) (hb hby at_261) rfl e93 (by decide : 12 + 0 ≤ _) (by decide : 29 + 0 ≤ _)
    obtain ⟨rfl, N95q, K95, FN95, FA95⟩ := hQ95
    have N95 := Fr.app N93 N95q
    have e95 : T95.heap = T95.heap := rfl
    have Zk95 : n0 ≤ T95.heap.size := Nat.le_trans Zk89 K95.1
    have Kk95 : Keep h0 T95.heap [] := Kk89.trans K95 (allS (Or.inr sz_b75) all0)
    have f97 := ((((f76.ext E75).keep K85).keep K89).keep K95)
    obtain ⟨_, T96, Lc96, X96, hQ96, st96⟩ := own_virtual (W := 0) (y := mN9) (z := mN9) X95 hx hZ hown (hw _ (List.mem_of_getElem? (i := 53) rfl)) (hw _ (List.mem_of_getElem? (i := 54) rfl)) (notFace_of_selects (args := #[]) (mvT hZ (hw _ (List.mem_of_getElem? (i := 56) rfl)))) (hw _ (List.mem_of_getElem? (i := 56) rfl)) (hw _ (List.mem_of_getElem? (i := 55) rfl)) (hw _ (List.mem_of_getElem? (i := 57) rfl)) (hw _ (List.mem_of_getElem? (i := 3) rfl)) (by decide) (rmSame l Z av0 hw [] b11 T95.heap n0 Zk95 ) (by decide) (by decide) f97 (g := (mkF m 270 #[iv p0, iv p1, iv p2, iv p3, iv (((1 : Int32) + (2 : Int32))), iv (0 : Int32), iv (1 : Int32), rv b3, rv b11, rv b29, rv b57, rv b75, rv b3, rv b11, .unset] [(.ref b11), (.ref b11)])) rfl (by rw [hml]; rfl) (argsL := [(.ref b11)]) (rest := []) (lenOf pd__Ljava_lang_Object_Z rfl) rfl (by show 2 * 0 + _ ≤ _; exact Nat.le_of_eq rfl) (hb hby at_270) rfl e95 (by decide : 12 + 0 ≤ _) (by decide : 29 + 0 ≤ _)
    obtain ⟨rfl, N96q, hh96⟩ := hQ96
    have N96 := Fr.app N95 N96q
    have e96 : T96.heap = T95.heap := hh96
    have f98 := (f92.keep K95 (ninS ne_b57_b75 nin0))
    have f100 := (f94.keep K95)
    obtain ⟨_, T99, Lc99, X99, hQ99, st99⟩ := own_virtual (W := 0) (y := mN6) (z := mN6) X96 hx hZ hown (hw _ (List.mem_of_getElem? (i := 41) rfl)) (hw _ (List.mem_of_getElem? (i := 42) rfl)) (notFace_of_selects (args := #[]) (mvT hZ (hw _ (List.mem_of_getElem? (i := 44) rfl)))) (hw _ (List.mem_of_getElem? (i := 44) rfl)) (hw _ (List.mem_of_getElem? (i := 43) rfl)) (hw _ (List.mem_of_getElem? (i := 45) rfl)) (hw _ (List.mem_of_getElem? (i := 34) rfl)) (by decide) (rmHas l Z av0 hw [] b75 b57 k57 ((1 : Int32) + (2 : Int32)) [(.ref b3), (.ref b11), (.ref b29)] (((0 : Int32) + (1 : Int32)) + (1 : Int32)) T95.heap n0 Zk95 FA95 FN95 f98) (by decide) (by decide) f100 (g := (mkF m 280 #[iv p0, iv p1, iv p2, iv p3, iv (((1 : Int32) + (2 : Int32))), iv (0 : Int32), iv (1 : Int32), rv b3, rv b11, rv b29, rv b57, rv b75, rv b3, rv b11, .unset] [(.ref b75)])) rfl (by rw [hml]; rfl) (argsL := []) (rest := []) (lenOf pd__Z rfl) rfl (by show 2 * 0 + _ ≤ _; exact Nat.le_of_eq rfl) (hb hby at_280) rfl e96 (by decide : 12 + 0 ≤ _) (by decide : 29 + 0 ≤ _)
    obtain ⟨rfl, N99q, hh99⟩ := hQ99
    have N99 := Fr.app N96 N99q
    have e99 : T99.heap = T95.heap := hh99
    obtain ⟨_, T101, Lc101, X101, hQ101, st101⟩ := own_virtual (W := 0) (y := mN7) (z := mN7) X99 hx hZ hown (hw _ (List.mem_of_getElem? (i := 48) rfl)) (hw _ (List.mem_of_getElem? (i := 49) rfl)) (notFace_of_selects (args := #[]) (mvT hZ (hw _ (List.mem_of_getElem? (i := 51) rfl)))) (hw _ (List.mem_of_getElem? (i := 51) rfl)) (hw _ (List.mem_of_getElem? (i := 50) rfl)) (hw _ (List.mem_of_getElem? (i := 52) rfl)) (hw _ (List.mem_of_getElem? (i := 34) rfl)) (by decide) (rmOpt l Z av0 hw [] b75 b57 k57 ((1 : Int32) + (2 : Int32)) [(.ref b3), (.ref b11), (.ref b29)] (((0 : Int32) + (1 : Int32)) + (1 : Int32)) b29 T95.heap n0 Zk95 FA95 FN95 f98 f100 ge_b75 (Ne.symm ne_b57_b75) (by decide) rfl) (by decide) (by decide) f100 (g := (mkF m 309 #[iv p0, iv p1, iv p2, iv p3, iv (((1 : Int32) + (2 : Int32))), iv (0 : Int32), iv (1 : Int32), rv b3, rv b11, rv b29, rv b57, rv b75, rv b3, rv b11, .unset] [(.ref b75)])) rfl (by rw [hml]; rfl) (argsL := []) (rest := []) (lenOf pd__Ljava_lang_String_ rfl) rfl (by show 2 * 0 + _ ≤ _; exact Nat.le_of_eq rfl) (hb hby at_309) rfl e99 (by decide : 12 + 0 ≤ _) (by decide : 29 + 0 ≤ _)
    obtain ⟨rfl, N101q, K101, FN101, FA101⟩ := hQ101
    have N101 := Fr.app N99 N101q
    have e101 : T101.heap = T101.heap := rfl
    have Zk101 : n0 ≤ T101.heap.size := Nat.le_trans Zk95 K101.1
    have Kk101 : Keep h0 T101.heap [] := Kk95.trans K101 (allS (Or.inr sz_b75) all0)
    have f103 := (((((f79.ext E75).keep K85).keep K89).keep K95).keep K101)
    obtain ⟨_, T102, Lc102, X102, hQ102, st102⟩ := own_virtual (W := 0) (y := mN9) (z := mN9) X101 hx hZ hown (hw _ (List.mem_of_getElem? (i := 53) rfl)) (hw _ (List.mem_of_getElem? (i := 54) rfl)) (notFace_of_selects (args := #[]) (mvT hZ (hw _ (List.mem_of_getElem? (i := 56) rfl)))) (hw _ (List.mem_of_getElem? (i := 56) rfl)) (hw _ (List.mem_of_getElem? (i := 55) rfl)) (hw _ (List.mem_of_getElem? (i := 57) rfl)) (hw _ (List.mem_of_getElem? (i := 3) rfl)) (by decide) (rmSame l Z av0 hw [] b29 T101.heap n0 Zk101 ) (by decide) (by decide) f103 (g := (mkF m 318 #[iv p0, iv p1, iv p2, iv p3, iv (((1 : Int32) + (2 : Int32))), iv (0 : Int32), iv (1 : Int32), rv b3, rv b11, rv b29, rv b57, rv b75, rv b3, rv b11, rv b29] [(.ref b29), (.ref b29)])) rfl (by rw [hml]; rfl) (argsL := [(.ref b29)]) (rest := []) (lenOf pd__Ljava_lang_Object_Z rfl) rfl (by show 2 * 0 + _ ≤ _; exact Nat.le_of_eq rfl) (hb hby at_318) rfl e101 (by decide : 12 + 0 ≤ _) (by decide : 29 + 0 ≤ _)
    obtain ⟨rfl, N102q, hh102⟩ := hQ102
    have N102 := Fr.app N101 N102q
    have e102 : T102.heap = T101.heap := hh102
    have f104 := (f98.keep K101 (ninS ne_b57_b75 nin0))
    have f106 := (f100.keep K101)
    obtain ⟨_, T105, Lc105, X105, hQ105, st105⟩ := own_virtual (W := 0) (y := mN6) (z := mN6) X102 hx hZ hown (hw _ (List.mem_of_getElem? (i := 41) rfl)) (hw _ (List.mem_of_getElem? (i := 42) rfl)) (notFace_of_selects (args := #[]) (mvT hZ (hw _ (List.mem_of_getElem? (i := 44) rfl)))) (hw _ (List.mem_of_getElem? (i := 44) rfl)) (hw _ (List.mem_of_getElem? (i := 43) rfl)) (hw _ (List.mem_of_getElem? (i := 45) rfl)) (hw _ (List.mem_of_getElem? (i := 34) rfl)) (by decide) (rmHas l Z av0 hw [] b75 b57 k57 ((1 : Int32) + (2 : Int32)) [(.ref b3), (.ref b11), (.ref b29)] ((((0 : Int32) + (1 : Int32)) + (1 : Int32)) + (1 : Int32)) T101.heap n0 Zk101 FA101 FN101 f104) (by decide) (by decide) f106 (g := (mkF m 328 #[iv p0, iv p1, iv p2, iv p3, iv (((1 : Int32) + (2 : Int32))), iv (0 : Int32), iv (1 : Int32), rv b3, rv b11, rv b29, rv b57, rv b75, rv b3, rv b11, rv b29] [(.ref b75)])) rfl (by rw [hml]; rfl) (argsL := []) (rest := []) (lenOf pd__Z rfl) rfl (by show 2 * 0 + _ ≤ _; exact Nat.le_of_eq rfl) (hb hby at_328) rfl e102 (by decide : 12 + 0 ≤ _) (by decide : 29 + 0 ≤ _)
    obtain ⟨rfl, N105q, hh105⟩ := hQ105
    have N105 := Fr.app N102 N105q
    have e105 : T105.heap = T101.heap := hh105
    have S107 : ∀ t, Steps p.tables e below (T105.setTop (mkF m 339 #[iv p0, iv p1, iv p2, iv p3, iv (((1 : Int32) + (2 : Int32))), iv (0 : Int32), iv (1 : Int32), rv b3, rv b11, rv b29, rv b57, rv b75, rv b3, rv b11, rv b29] [(.int (1 : Int32))])) t → Steps p.tables e below (s₁.setTop (mkF m 0 #[iv p0, iv p1, iv p2, iv p3, .unset, .unset, .unset, .unset, .unset, .unset, .unset, .unset, .unset, .unset, .unset] [])) t := fun t k => S9 t (by
      show Steps p.tables e below (T4.setTop (mkF m 54 #[iv p0, iv p1, iv p2, iv p3, iv (((1 : Int32) + (2 : Int32))), iv (0 : Int32), iv (1 : Int32), .unset, .unset, .unset, .unset, .unset, .unset, .unset, .unset] [(.ref b4), (.ref b3), (.ref b3)])) _
      refine st8 _ ?_
      refine XS.goto X8.here hx rfl (pc0 := 57) (pc' := 84) rfl (hb hby at_57) (by decide) (by decide) ?_
      refine XS.astore X8.here hx rfl (hb hby at_84) rfl rfl (l' := #[iv p0, iv p1, iv p2, iv p3, iv (((1 : Int32) + (2 : Int32))), iv (0 : Int32), iv (1 : Int32), rv b3, .unset, .unset, .unset, .unset, .unset, .unset, .unset]) rfl ?_
      show Steps p.tables e below (T8.setTop (mkF m 86 #[iv p0, iv p1, iv p2, iv p3, iv (((1 : Int32) + (2 : Int32))), iv (0 : Int32), iv (1 : Int32), rv b3, .unset, .unset, .unset, .unset, .unset, .unset, .unset] [])) _
      refine st11 _ ?_
      refine XS.dup X11.here hx rfl (hb hby at_89) rfl rfl ?_
      refine XT.iconstV X11.here hx rfl (2 : Int32) (hb hby at_90) (by decide) ?_
      refine st13 _ ?_
      refine XS.dup X13.here hx rfl (hb hby at_93) rfl rfl ?_
      refine XT.iconstV X13.here hx rfl (0 : Int32) (hb hby at_94) (by decide) ?_
      show Steps p.tables e below (T13.setTop (mkF m 95 #[iv p0, iv p1, iv p2, iv p3, iv (((1 : Int32) + (2 : Int32))), iv (0 : Int32), iv (1 : Int32), rv b3, .unset, .unset, .unset, .unset, .unset, .unset, .unset] [(.int (0 : Int32)), (.ref b13), (.ref b13), (.ref b11), (.ref b11)])) _
      refine XS.iloadN X13.here hx rfl (hb hby at_95) rfl ?_
      refine XT.sipushV X13.here hx rfl (255 : Int32) (hb hby at_96) (by decide) ?_
      refine XS.iand X13.here hx rfl (hb hby at_99) rfl ?_
      refine XT.i2c X13.here hx rfl (hb hby at_100) rfl ?_
      refine st18 _ ?_
      refine XS.dup X18.here hx rfl (hb hby at_102) rfl rfl ?_
      show Steps p.tables e below (T18.setTop (mkF m 103 #[iv p0, iv p1, iv p2, iv p3, iv (((1 : Int32) + (2 : Int32))), iv (0 : Int32), iv (1 : Int32), rv b3, .unset, .unset, .unset, .unset, .unset, .unset, .unset] [(.ref b13), (.ref b13), (.ref b11), (.ref b11)])) _
      refine XT.iconstV X18.here hx rfl (1 : Int32) (hb hby at_103) (by decide) ?_
      refine XT.bipushV X18.here hx rfl (98 : Int32) (hb hby at_104) (by decide) ?_
      refine st20 _ ?_
      refine st25 _ ?_
      refine XS.astore X25.here hx rfl (hb hby at_110) rfl rfl (l' := #[iv p0, iv p1, iv p2, iv p3, iv (((1 : Int32) + (2 : Int32))), iv (0 : Int32), iv (1 : Int32), rv b3, rv b11, .unset, .unset, .unset, .unset, .unset, .unset]) rfl ?_
      refine st29 _ ?_
      show Steps p.tables e below (T29.setTop (mkF m 115 #[iv p0, iv p1, iv p2, iv p3, iv (((1 : Int32) + (2 : Int32))), iv (0 : Int32), iv (1 : Int32), rv b3, rv b11, .unset, .unset, .unset, .unset, .unset, .unset] [(.ref b29)])) _
      refine XS.dup X29.here hx rfl (hb hby at_115) rfl rfl ?_
      refine XT.iconstV X29.here hx rfl (2 : Int32) (hb hby at_116) (by decide) ?_
      refine st35 _ ?_
      refine XS.dup X35.here hx rfl (hb hby at_119) rfl rfl ?_
      refine XT.iconstV X35.here hx rfl (0 : Int32) (hb hby at_120) (by decide) ?_
      refine XS.iloadN X35.here hx rfl (hb hby at_121) rfl ?_
      show Steps p.tables e below (T35.setTop (mkF m 122 #[iv p0, iv p1, iv p2, iv p3, iv (((1 : Int32) + (2 : Int32))), iv (0 : Int32), iv (1 : Int32), rv b3, rv b11, .unset, .unset, .unset, .unset, .unset, .unset] [(.int p2), (.int (0 : Int32)), (.ref b35), (.ref b35), (.ref b29), (.ref b29)])) _
      refine XT.sipushV X35.here hx rfl (255 : Int32) (hb hby at_122) (by decide) ?_
      refine XS.iand X35.here hx rfl (hb hby at_125) rfl ?_
      refine XT.i2c X35.here hx rfl (hb hby at_126) rfl ?_
      refine st43 _ ?_
      refine XS.dup X43.here hx rfl (hb hby at_128) rfl rfl ?_
      refine XT.iconstV X43.here hx rfl (1 : Int32) (hb hby at_129) (by decide) ?_
      show Steps p.tables e below (T43.setTop (mkF m 130 #[iv p0, iv p1, iv p2, iv p3, iv (((1 : Int32) + (2 : Int32))), iv (0 : Int32), iv (1 : Int32), rv b3, rv b11, .unset, .unset, .unset, .unset, .unset, .unset] [(.int (1 : Int32)), (.ref b35), (.ref b35), (.ref b29), (.ref b29)])) _
      refine XT.bipushV X43.here hx rfl (99 : Int32) (hb hby at_130) (by decide) ?_
      refine st45 _ ?_
      refine st50 _ ?_
      refine XS.astore X50.here hx rfl (hb hby at_136) rfl rfl (l' := #[iv p0, iv p1, iv p2, iv p3, iv (((1 : Int32) + (2 : Int32))), iv (0 : Int32), iv (1 : Int32), rv b3, rv b11, rv b29, .unset, .unset, .unset, .unset, .unset]) rfl ?_
      refine XS.iload X50.here hx rfl (hb hby at_138) rfl ?_
      refine st57 _ ?_
      show Steps p.tables e below (T57.setTop (mkF m 143 #[iv p0, iv p1, iv p2, iv p3, iv (((1 : Int32) + (2 : Int32))), iv (0 : Int32), iv (1 : Int32), rv b3, rv b11, rv b29, .unset, .unset, .unset, .unset, .unset] [(.ref b57)])) _
      refine XS.astore X57.here hx rfl (hb hby at_143) rfl rfl (l' := #[iv p0, iv p1, iv p2, iv p3, iv (((1 : Int32) + (2 : Int32))), iv (0 : Int32), iv (1 : Int32), rv b3, rv b11, rv b29, rv b57, .unset, .unset, .unset, .unset]) rfl ?_
      refine XS.aload X57.here hx rfl (hb hby at_145) rfl rfl ?_
      refine XT.iconstV X57.here hx rfl (0 : Int32) (hb hby at_147) (by decide) ?_
      refine XS.aload X57.here hx rfl (hb hby at_148) rfl rfl ?_
      refine st68 _ ?_
      refine XS.iload X68.here hx rfl (hb hby at_151) rfl ?_
      show Steps p.tables e below (T68.setTop (mkF m 153 #[iv p0, iv p1, iv p2, iv p3, iv (((1 : Int32) + (2 : Int32))), iv (0 : Int32), iv (1 : Int32), rv b3, rv b11, rv b29, rv b57, .unset, .unset, .unset, .unset] [(.int ((1 : Int32) + (2 : Int32)))])) _
      refine XT.iconstV X68.here hx rfl (1 : Int32) (hb hby at_153) (by decide) ?_
      refine XS.icmpNo X68.here hx rfl (hb hby at_154) rfl (XT.ii_le_f (by decide)) ?_
      refine XS.aload X68.here hx rfl (hb hby at_157) rfl rfl ?_
      refine XT.iconstV X68.here hx rfl (1 : Int32) (hb hby at_159) (by decide) ?_
      refine XS.aload X68.here hx rfl (hb hby at_160) rfl rfl ?_
      refine st71 _ ?_
      show Steps p.tables e below (T71.setTop (mkF m 163 #[iv p0, iv p1, iv p2, iv p3, iv (((1 : Int32) + (2 : Int32))), iv (0 : Int32), iv (1 : Int32), rv b3, rv b11, rv b29, rv b57, .unset, .unset, .unset, .unset] [])) _
      refine XS.iload X71.here hx rfl (hb hby at_163) rfl ?_
      refine XT.iconstV X71.here hx rfl (2 : Int32) (hb hby at_165) (by decide) ?_
      refine XS.icmpNo X71.here hx rfl (hb hby at_166) rfl (XT.ii_le_f (by decide)) ?_
      refine XS.aload X71.here hx rfl (hb hby at_169) rfl rfl ?_
      refine XT.iconstV X71.here hx rfl (2 : Int32) (hb hby at_171) (by decide) ?_
      refine XS.aload X71.here hx rfl (hb hby at_172) rfl rfl ?_
      show Steps p.tables e below (T71.setTop (mkF m 174 #[iv p0, iv p1, iv p2, iv p3, iv (((1 : Int32) + (2 : Int32))), iv (0 : Int32), iv (1 : Int32), rv b3, rv b11, rv b29, rv b57, .unset, .unset, .unset, .unset] [(.ref b29), (.int (2 : Int32)), (.ref b57)])) _
      refine st74 _ ?_
      refine st75 _ ?_
      refine XS.dup X75.here hx rfl (hb hby at_178) rfl rfl ?_
      refine XS.aload X75.here hx rfl (hb hby at_179) rfl rfl ?_
      refine st85 _ ?_
      refine XS.astore X85.here hx rfl (hb hby at_184) rfl rfl (l' := #[iv p0, iv p1, iv p2, iv p3, iv (((1 : Int32) + (2 : Int32))), iv (0 : Int32), iv (1 : Int32), rv b3, rv b11, rv b29, rv b57, rv b75, .unset, .unset, .unset]) rfl ?_
      show Steps p.tables e below (T85.setTop (mkF m 186 #[iv p0, iv p1, iv p2, iv p3, iv (((1 : Int32) + (2 : Int32))), iv (0 : Int32), iv (1 : Int32), rv b3, rv b11, rv b29, rv b57, rv b75, .unset, .unset, .unset] [])) _
      refine XS.aload X85.here hx rfl (hb hby at_186) rfl rfl ?_
      refine st87 _ ?_
      refine XS.ifYes X87.here hx rfl (pc0 := 191) (pc' := 196) rfl (hb hby at_191) rfl (XT.i0_ne_t (by decide)) (by decide) (by decide) ?_
      refine XS.aload X87.here hx rfl (hb hby at_196) rfl rfl ?_
      refine st89 _ ?_
      refine XS.astore X89.here hx rfl (hb hby at_201) rfl rfl (l' := #[iv p0, iv p1, iv p2, iv p3, iv (((1 : Int32) + (2 : Int32))), iv (0 : Int32), iv (1 : Int32), rv b3, rv b11, rv b29, rv b57, rv b75, rv b3, .unset, .unset]) rfl ?_
      show Steps p.tables e below (T89.setTop (mkF m 203 #[iv p0, iv p1, iv p2, iv p3, iv (((1 : Int32) + (2 : Int32))), iv (0 : Int32), iv (1 : Int32), rv b3, rv b11, rv b29, rv b57, rv b75, rv b3, .unset, .unset] [])) _
      refine XS.aload X89.here hx rfl (hb hby at_203) rfl rfl ?_
      refine XS.aload X89.here hx rfl (hb hby at_205) rfl rfl ?_
      refine st90 _ ?_
      refine XS.ifYes X90.here hx rfl (pc0 := 210) (pc' := 215) rfl (hb hby at_210) rfl (XT.i0_ne_t (by decide)) (by decide) (by decide) ?_
      refine XS.aload X90.here hx rfl (hb hby at_215) rfl rfl ?_
      refine st93 _ ?_
      show Steps p.tables e below (T93.setTop (mkF m 220 #[iv p0, iv p1, iv p2, iv p3, iv (((1 : Int32) + (2 : Int32))), iv (0 : Int32), iv (1 : Int32), rv b3, rv b11, rv b29, rv b57, rv b75, rv b3, .unset, .unset] [(.int (own_lt ((0 : Int32) + (1 : Int32)) ((1 : Int32) + (2 : Int32))))])) _
      refine XS.iload X93.here hx rfl (hb hby at_220) rfl ?_
      refine XT.iconstV X93.here hx rfl (1 : Int32) (hb hby at_222) (by decide) ?_
      refine XS.icmpNo X93.here hx rfl (hb hby at_223) rfl (XT.ii_le_f (by decide)) ?_
      refine XT.iconstV X93.here hx rfl (1 : Int32) (hb hby at_226) (by decide) ?_
      refine XS.goto X93.here hx rfl (pc0 := 227) (pc' := 231) rfl (hb hby at_227) (by decide) (by decide) ?_
      refine XS.icmpYes X93.here hx rfl (pc0 := 231) (pc' := 236) rfl (hb hby at_231) rfl (XT.ii_eq_t (by decide)) (by decide) (by decide) ?_
      show Steps p.tables e below (T93.setTop (mkF m 236 #[iv p0, iv p1, iv p2, iv p3, iv (((1 : Int32) + (2 : Int32))), iv (0 : Int32), iv (1 : Int32), rv b3, rv b11, rv b29, rv b57, rv b75, rv b3, .unset, .unset] [])) _
      refine XS.iload X93.here hx rfl (hb hby at_236) rfl ?_
      refine XT.iconstV X93.here hx rfl (1 : Int32) (hb hby at_238) (by decide) ?_
      refine XS.icmpYes X93.here hx rfl (pc0 := 239) (pc' := 244) rfl (hb hby at_239) rfl (XT.ii_ne_t (by decide)) (by decide) (by decide) ?_
      refine XS.iload X93.here hx rfl (hb hby at_244) rfl ?_
      refine XS.ifYes X93.here hx rfl (pc0 := 246) (pc' := 259) rfl (hb hby at_246) rfl (XT.i0_eq_t (by decide)) (by decide) (by decide) ?_
      refine XS.aload X93.here hx rfl (hb hby at_259) rfl rfl ?_
      show Steps p.tables e below (T93.setTop (mkF m 261 #[iv p0, iv p1, iv p2, iv p3, iv (((1 : Int32) + (2 : Int32))), iv (0 : Int32), iv (1 : Int32), rv b3, rv b11, rv b29, rv b57, rv b75, rv b3, .unset, .unset] [(.ref b75)])) _
      refine st95 _ ?_
      refine XS.astore X95.here hx rfl (hb hby at_264) rfl rfl (l' := #[iv p0, iv p1, iv p2, iv p3, iv (((1 : Int32) + (2 : Int32))), iv (0 : Int32), iv (1 : Int32), rv b3, rv b11, rv b29, rv b57, rv b75, rv b3, rv b11, .unset]) rfl ?_
      refine XS.aload X95.here hx rfl (hb hby at_266) rfl rfl ?_
      refine XS.aload X95.here hx rfl (hb hby at_268) rfl rfl ?_
      refine st96 _ ?_
      refine XS.ifYes X96.here hx rfl (pc0 := 273) (pc' := 278) rfl (hb hby at_273) rfl (XT.i0_ne_t (by decide)) (by decide) (by decide) ?_
      show Steps p.tables e below (T96.setTop (mkF m 278 #[iv p0, iv p1, iv p2, iv p3, iv (((1 : Int32) + (2 : Int32))), iv (0 : Int32), iv (1 : Int32), rv b3, rv b11, rv b29, rv b57, rv b75, rv b3, rv b11, .unset] [])) _
      refine XS.aload X96.here hx rfl (hb hby at_278) rfl rfl ?_
      refine st99 _ ?_
      refine XS.iload X99.here hx rfl (hb hby at_283) rfl ?_
      refine XT.iconstV X99.here hx rfl (2 : Int32) (hb hby at_285) (by decide) ?_
      refine XS.icmpNo X99.here hx rfl (hb hby at_286) rfl (XT.ii_le_f (by decide)) ?_
      refine XT.iconstV X99.here hx rfl (1 : Int32) (hb hby at_289) (by decide) ?_
      show Steps p.tables e below (T99.setTop (mkF m 290 #[iv p0, iv p1, iv p2, iv p3, iv (((1 : Int32) + (2 : Int32))), iv (0 : Int32), iv (1 : Int32), rv b3, rv b11, rv b29, rv b57, rv b75, rv b3, rv b11, .unset] [(.int (1 : Int32)), (.int (own_lt (((0 : Int32) + (1 : Int32)) + (1 : Int32)) ((1 : Int32) + (2 : Int32))))])) _
      refine XS.goto X99.here hx rfl (pc0 := 290) (pc' := 294) rfl (hb hby at_290) (by decide) (by decide) ?_
      refine XS.icmpYes X99.here hx rfl (pc0 := 294) (pc' := 299) rfl (hb hby at_294) rfl (XT.ii_eq_t (by decide)) (by decide) (by decide) ?_
      refine XS.iload X99.here hx rfl (hb hby at_299) rfl ?_
      refine XT.iconstV X99.here hx rfl (2 : Int32) (hb hby at_301) (by decide) ?_
      refine XS.icmpYes X99.here hx rfl (pc0 := 302) (pc' := 307) rfl (hb hby at_302) rfl (XT.ii_ne_t (by decide)) (by decide) (by decide) ?_
      refine XS.aload X99.here hx rfl (hb hby at_307) rfl rfl ?_
      show Steps p.tables e below (T99.setTop (mkF m 309 #[iv p0, iv p1, iv p2, iv p3, iv (((1 : Int32) + (2 : Int32))), iv (0 : Int32), iv (1 : Int32), rv b3, rv b11, rv b29, rv b57, rv b75, rv b3, rv b11, .unset] [(.ref b75)])) _
      refine st101 _ ?_
      refine XS.astore X101.here hx rfl (hb hby at_312) rfl rfl (l' := #[iv p0, iv p1, iv p2, iv p3, iv (((1 : Int32) + (2 : Int32))), iv (0 : Int32), iv (1 : Int32), rv b3, rv b11, rv b29, rv b57, rv b75, rv b3, rv b11, rv b29]) rfl ?_
      refine XS.aload X101.here hx rfl (hb hby at_314) rfl rfl ?_
      refine XS.aload X101.here hx rfl (hb hby at_316) rfl rfl ?_
      refine st102 _ ?_
      refine XS.ifYes X102.here hx rfl (pc0 := 321) (pc' := 326) rfl (hb hby at_321) rfl (XT.i0_ne_t (by decide)) (by decide) (by decide) ?_
      show Steps p.tables e below (T102.setTop (mkF m 326 #[iv p0, iv p1, iv p2, iv p3, iv (((1 : Int32) + (2 : Int32))), iv (0 : Int32), iv (1 : Int32), rv b3, rv b11, rv b29, rv b57, rv b75, rv b3, rv b11, rv b29] [])) _
      refine XS.aload X102.here hx rfl (hb hby at_326) rfl rfl ?_
      refine st105 _ ?_
      refine XS.ifNo X105.here hx rfl (hb hby at_331) rfl (XT.i0_ne_f (by decide)) ?_
      refine XT.iconstV X105.here hx rfl (1 : Int32) (hb hby at_334) (by decide) ?_
      refine XS.goto X105.here hx rfl (pc0 := 335) (pc' := 339) rfl (hb hby at_335) (by decide) (by decide) ?_
      exact k)
    obtain ⟨fs, hr, hrun, hended, hEnd⟩ := X105.leaveW hS8 (by rw [e105]; exact (Nat.le_trans (Nat.le_trans (Nat.le_trans (Nat.le_trans (Nat.le_trans (Nat.le_trans (Nat.le_trans (Nat.le_trans (Nat.le_trans (Nat.le_trans (Nat.le_trans (Nat.le_trans (Nat.le_trans (Nat.le_trans (Nat.le_trans (Nat.le_trans (Nat.le_trans (Nat.le_trans (Nat.le_trans (Nat.le_refl _) E11.1) E13.1) (Nat.le_of_eq W18.size.symm)) (Nat.le_of_eq W20.size.symm)) K25.1) E29.1) E35.1) (Nat.le_of_eq W43.size.symm)) (Nat.le_of_eq W45.size.symm)) K50.1) E57.1) (Nat.le_of_eq W68.size.symm)) (Nat.le_of_eq W71.size.symm)) (Nat.le_of_eq W74.size.symm)) E75.1) K85.1) K89.1) K95.1) K101.1)) (v := some (.int (1 : Int32))) (fun h => by rw [Bd.returns] at h; cases h)
    refine ⟨_, _, pre0 _ (S107 _ ?_), hrun, hended, _, _, rfl, ?_, hEnd.1, hEnd.2.1, hEnd.2.2.1, hEnd.2.2.2.mono (by decide) (by decide)⟩
    · exact retN X105 hx (t := .boolean) Bd.returns (by simp) (hb hby at_339) hr
    · show Qrm0 Z p0 p1 p2 p3 wC h0 n0 _ T105.heap _
      rw [e105]
      exact ⟨rfl, N105⟩
  · obtain ⟨T108, h108, X108, e108, E108, A108, D108, -, st108⟩ := newO X0 hx hZ hown (hw _ (List.mem_of_getElem? (i := 1) rfl)) (hw _ (List.mem_of_getElem? (i := 2) rfl)) (hw _ (List.mem_of_getElem? (i := 3) rfl)) e0 (g := (mkF m 47 #[iv p0, iv p1, iv p2, iv p3, iv (((1 : Int32) + (2 : Int32))), iv (1 : Int32), iv (1 : Int32), .unset, .unset, .unset, .unset, .unset, .unset, .unset, .unset] [])) rfl (hb hby at_47) (by decide) (by decide)
    obtain ⟨b108, g108⟩ : ∃ z, z = h0.size := ⟨_, rfl⟩
    rw [← g108] at A108 D108 st108
    have ge_b108 : n0 ≤ b108 := Nat.le_trans Z0 (Nat.le_of_eq g108.symm)
    have sz_b108 : h0.size ≤ b108 := Nat.le_of_eq g108.symm
    have Z108 : n0 ≤ h108.size := Nat.le_trans Z0 E108.1
    have K108 : Keep h0 h108 [] := (Keep.refl h0 []).ext E108
    have F108_coder : Fld Z h108 b108 "java/lang/String" "coder" "B" (.int (0 : Int32)) := D108 (Or.inr (hw _ (List.mem_of_getElem? (i := 28) rfl))) (ty := .byte) (by decide)
    have F108_value : Fld Z h108 b108 "java/lang/String" "value" "[B" .null := D108 (Or.inr (hw _ (List.mem_of_getElem? (i := 30) rfl))) (ty := (.array .byte)) (by decide)
    obtain ⟨T109, h109, k109, X109, e109, E109, A109, st109⟩ := newP X108 hx hZ (hw _ (List.mem_of_getElem? (i := 4) rfl)) e108 (g := (mkF m 52 #[iv p0, iv p1, iv p2, iv p3, iv (((1 : Int32) + (2 : Int32))), iv (1 : Int32), iv (1 : Int32), .unset, .unset, .unset, .unset, .unset, .unset, .unset, .unset] [(.int (0 : Int32)), (.ref b108), (.ref b108)])) rfl (hb hby at_52) rfl (by decide) (cap := 0) (by decide) (by decide) (by decide) (by decide)
    obtain ⟨b109, g109⟩ : ∃ z, z = h108.size := ⟨_, rfl⟩
    rw [← g109] at A109 st109
    have ne_b108_b109 : b108 ≠ b109 := Nat.ne_of_lt (Nat.lt_of_lt_of_le A108.lt (Nat.le_of_eq g109.symm))
    have ge_b109 : n0 ≤ b109 := Nat.le_trans Z108 (Nat.le_of_eq g109.symm)
    have sz_b109 : h0.size ≤ b109 := Nat.le_trans K108.1 (Nat.le_of_eq g109.symm)
    have Z109 : n0 ≤ h109.size := Nat.le_trans Z108 E109.1
    have K109 : Keep h0 h109 [] := K108.ext E109
    have V109 : Arv Z h109 b109 k109 .char (0 : Int32) [] (.int (0 : Int32)) := Arv.new A109 (by decide)
    have f110 := (A108.ext E109)
    have f111 := (F108_value.ext E109)
    have f112 := (F108_coder.ext E109)
    have S114 : ∀ t, Steps p.tables e below (T109.setTop (mkF m 54 #[iv p0, iv p1, iv p2, iv p3, iv (((1 : Int32) + (2 : Int32))), iv (1 : Int32), iv (1 : Int32), .unset, .unset, .unset, .unset, .unset, .unset, .unset, .unset] [(.ref b109), (.ref b108), (.ref b108)])) t → Steps p.tables e below (s₁.setTop (mkF m 0 #[iv p0, iv p1, iv p2, iv p3, .unset, .unset, .unset, .unset, .unset, .unset, .unset, .unset, .unset, .unset, .unset] [])) t := fun t k => S1 t (by
      show Steps p.tables e below (s₁.setTop (mkF m 16 #[iv p0, iv p1, iv p2, iv p3, iv (((1 : Int32) + (2 : Int32))), .unset, .unset, .unset, .unset, .unset, .unset, .unset, .unset, .unset, .unset] [(.int ((XT.ushr p3 (8 : Int32)) &&& (1 : Int32)))])) _
      refine XS.ifNo X0.here hx rfl (hb hby at_16) rfl (XT.i0_eq_f hc16_2) ?_
      refine XT.iconstV X0.here hx rfl (1 : Int32) (hb hby at_19) (by decide) ?_
      refine XS.goto X0.here hx rfl (pc0 := 20) (pc' := 24) rfl (hb hby at_20) (by decide) (by decide) ?_
      refine XS.istore X0.here hx rfl (hb hby at_24) rfl (l' := #[iv p0, iv p1, iv p2, iv p3, iv (((1 : Int32) + (2 : Int32))), iv (1 : Int32), .unset, .unset, .unset, .unset, .unset, .unset, .unset, .unset, .unset]) rfl ?_
      show Steps p.tables e below (s₁.setTop (mkF m 26 #[iv p0, iv p1, iv p2, iv p3, iv (((1 : Int32) + (2 : Int32))), iv (1 : Int32), .unset, .unset, .unset, .unset, .unset, .unset, .unset, .unset, .unset] [])) _
      refine XS.iloadN X0.here hx rfl (hb hby at_26) rfl ?_
      refine XT.bipushV X0.here hx rfl (9 : Int32) (hb hby at_27) (by decide) ?_
      refine XT.iushr X0.here hx rfl (hb hby at_29) rfl ?_
      refine XT.iconstV X0.here hx rfl (1 : Int32) (hb hby at_30) (by decide) ?_
      refine XS.iand X0.here hx rfl (hb hby at_31) rfl ?_
      show Steps p.tables e below (s₁.setTop (mkF m 32 #[iv p0, iv p1, iv p2, iv p3, iv (((1 : Int32) + (2 : Int32))), iv (1 : Int32), .unset, .unset, .unset, .unset, .unset, .unset, .unset, .unset, .unset] [(.int ((XT.ushr p3 (9 : Int32)) &&& (1 : Int32)))])) _
      rw [he]
      show Steps p.tables e below (s₁.setTop (mkF m 32 #[iv p0, iv p1, iv p2, iv p3, iv (((1 : Int32) + (2 : Int32))), iv (1 : Int32), .unset, .unset, .unset, .unset, .unset, .unset, .unset, .unset, .unset] [(.int (1 : Int32))])) _
      refine XS.ifNo X0.here hx rfl (hb hby at_32) rfl (XT.i0_eq_f (by decide)) ?_
      refine XT.iconstV X0.here hx rfl (1 : Int32) (hb hby at_35) (by decide) ?_
      refine XS.goto X0.here hx rfl (pc0 := 36) (pc' := 40) rfl (hb hby at_36) (by decide) (by decide) ?_
      refine XS.istore X0.here hx rfl (hb hby at_40) rfl (l' := #[iv p0, iv p1, iv p2, iv p3, iv (((1 : Int32) + (2 : Int32))), iv (1 : Int32), iv (1 : Int32), .unset, .unset, .unset, .unset, .unset, .unset, .unset, .unset]) rfl ?_
      refine XS.iload X0.here hx rfl (hb hby at_42) rfl ?_
      refine XS.ifNo X0.here hx rfl (hb hby at_44) rfl (XT.i0_eq_f (by decide)) ?_
      show Steps p.tables e below (s₁.setTop (mkF m 47 #[iv p0, iv p1, iv p2, iv p3, iv (((1 : Int32) + (2 : Int32))), iv (1 : Int32), iv (1 : Int32), .unset, .unset, .unset, .unset, .unset, .unset, .unset, .unset] [])) _
      refine st108 _ ?_
      refine XS.dup X108.here hx rfl (hb hby at_50) rfl rfl ?_
      refine XT.iconstV X108.here hx rfl (0 : Int32) (hb hby at_51) (by decide) ?_
      refine st109 _ ?_
      exact k)
    obtain ⟨_, T113, Lc113, X113, hS113, hQ113, st113⟩ := own_specialI (W := 1) (y := mN4) X109 hx hZ rfl hown (hw _ (List.mem_of_getElem? (i := 5) rfl)) (hw _ (List.mem_of_getElem? (i := 6) rfl)) (hw _ (List.mem_of_getElem? (i := 7) rfl)) (hw _ (List.mem_of_getElem? (i := 3) rfl)) (by decide) (rmSi2_e l Z av0 hw [] b108 b109 k109 h109 n0 Z109 f110 f111 f112 ge_b108 V109 (fun b cl q => K109.2.1 b cl (hkp b cl q) nin0) hcH hcw) (by decide) (by decide) hI (g := (mkF m 54 #[iv p0, iv p1, iv p2, iv p3, iv (((1 : Int32) + (2 : Int32))), iv (1 : Int32), iv (1 : Int32), .unset, .unset, .unset, .unset, .unset, .unset, .unset, .unset] [(.ref b109), (.ref b108), (.ref b108)])) rfl (by rw [hml]; rfl) (a := b108) (argsL := [(.ref b109)]) (rest := [(.ref b108)]) (lenOf pd__C_V rfl) rfl (by show 2 * 0 + _ ≤ _; exact Nat.le_of_eq rfl) (hb hby at_54) rfl e109 (by decide : 2 + 2 ≤ _) (by decide : 4 + 4 ≤ _)
    have hZ := State.Warmed39.trans (t := s) hZ hS113.1
    have hown : (s.setVm T113.vm).vm.findClass "com/example/steady_courier/steadycourier/OptionReaderOptionPinLaw" = some m.cls := by rw [show (s.setVm T113.vm).vm = T113.vm from rfl, hS113.1.alike.findClass]; exact hown
    obtain ⟨rfl, N113q, K113, FC113, b113, kb113, FV113, V113⟩ := hQ113
    have N113 := Fr.app N0 N113q
    have e113 : T113.heap = T113.heap := rfl
    have Zk113 : n0 ≤ T113.heap.size := Nat.le_trans Z109 K113.1
    have Kk113 : Keep h0 T113.heap [] := K109.trans K113 (allS (Or.inr sz_b108) all0)
    have f115 := (f110.keep K113)
    have ne_b108_b113 : b108 ≠ b113 := f115.neArv V113 (hw _ (List.mem_of_getElem? (i := 2) rfl))
    obtain ⟨T116, h116, X116, e116, E116, A116, D116, -, st116⟩ := newO X113 hx hZ hown (hw _ (List.mem_of_getElem? (i := 1) rfl)) (hw _ (List.mem_of_getElem? (i := 2) rfl)) (hw _ (List.mem_of_getElem? (i := 3) rfl)) e113 (g := (mkF m 86 #[iv p0, iv p1, iv p2, iv p3, iv (((1 : Int32) + (2 : Int32))), iv (1 : Int32), iv (1 : Int32), rv b108, .unset, .unset, .unset, .unset, .unset, .unset, .unset] [])) rfl (hb hby at_86) (by decide) (by decide)
    obtain ⟨b116, g116⟩ : ∃ z, z = T113.heap.size := ⟨_, rfl⟩
    rw [← g116] at A116 D116 st116
    have ne_b108_b116 : b108 ≠ b116 := Nat.ne_of_lt (Nat.lt_of_lt_of_le f115.lt (Nat.le_of_eq g116.symm))
    have f117 := (V109.keep K113 (ninS (Ne.symm ne_b108_b109) nin0))
    have ne_b109_b116 : b109 ≠ b116 := Nat.ne_of_lt (Nat.lt_of_lt_of_le f117.lt (Nat.le_of_eq g116.symm))
    have ne_b113_b116 : b113 ≠ b116 := Nat.ne_of_lt (Nat.lt_of_lt_of_le V113.lt (Nat.le_of_eq g116.symm))
    have ge_b116 : n0 ≤ b116 := Nat.le_trans Zk113 (Nat.le_of_eq g116.symm)
    have sz_b116 : h0.size ≤ b116 := Nat.le_trans Kk113.1 (Nat.le_of_eq g116.symm)
    have Z116 : n0 ≤ h116.size := Nat.le_trans Zk113 E116.1
    have K116 : Keep h0 h116 [] := Kk113.ext E116
    have F116_coder : Fld Z h116 b116 "java/lang/String" "coder" "B" (.int (0 : Int32)) := D116 (Or.inr (hw _ (List.mem_of_getElem? (i := 28) rfl))) (ty := .byte) (by decide)
    have F116_value : Fld Z h116 b116 "java/lang/String" "value" "[B" .null := D116 (Or.inr (hw _ (List.mem_of_getElem? (i := 30) rfl))) (ty := (.array .byte)) (by decide)
    obtain ⟨T118, h118, k118, X118, e118, E118, A118, st118⟩ := newP X116 hx hZ (hw _ (List.mem_of_getElem? (i := 4) rfl)) e116 (g := (mkF m 91 #[iv p0, iv p1, iv p2, iv p3, iv (((1 : Int32) + (2 : Int32))), iv (1 : Int32), iv (1 : Int32), rv b108, .unset, .unset, .unset, .unset, .unset, .unset, .unset] [(.int (2 : Int32)), (.ref b116), (.ref b116)])) rfl (hb hby at_91) rfl (by decide) (cap := 2) (by decide) (by decide) (by decide) (by decide)
    obtain ⟨b118, g118⟩ : ∃ z, z = h116.size := ⟨_, rfl⟩
    rw [← g118] at A118 st118
    have f119 := (f115.ext E116)
    have ne_b108_b118 : b108 ≠ b118 := Nat.ne_of_lt (Nat.lt_of_lt_of_le f119.lt (Nat.le_of_eq g118.symm))
    have f120 := (f117.ext E116)
    have ne_b109_b118 : b109 ≠ b118 := Nat.ne_of_lt (Nat.lt_of_lt_of_le f120.lt (Nat.le_of_eq g118.symm))
    have f121 := (V113.ext E116)
    have ne_b113_b118 : b113 ≠ b118 := Nat.ne_of_lt (Nat.lt_of_lt_of_le f121.lt (Nat.le_of_eq g118.symm))
    have ne_b116_b118 : b116 ≠ b118 := Nat.ne_of_lt (Nat.lt_of_lt_of_le A116.lt (Nat.le_of_eq g118.symm))
    have ge_b118 : n0 ≤ b118 := Nat.le_trans Z116 (Nat.le_of_eq g118.symm)
    have sz_b118 : h0.size ≤ b118 := Nat.le_trans K116.1 (Nat.le_of_eq g118.symm)
    have Z118 : n0 ≤ h118.size := Nat.le_trans Z116 E118.1
    have K118 : Keep h0 h118 [] := K116.ext E118
    have V118 : Arv Z h118 b118 k118 .char (2 : Int32) [(.int (0 : Int32)), (.int (0 : Int32))] (.int (0 : Int32)) := (Arv.new A118 (by decide)).pad (pad_rep [] (.int (0 : Int32)) 2)
    obtain ⟨cl122, Ar122, qk122, Sz122, Ng122, Hs122, Gs122⟩ := id V118
    have hin122 : ¬ ((0 : Int32) < 0 ∨ cl122.slots.size ≤ ((0 : Int32)).toNatClampNeg) := inb_of Sz122 ⟨by decide, by decide⟩
    obtain ⟨T123, h123, X123, e123, W123, st123⟩ := stC X118 hx hZ e118 Ar122 (j := (0 : Int32)) hin122 (g := (mkF m 101 #[iv p0, iv p1, iv p2, iv p3, iv (((1 : Int32) + (2 : Int32))), iv (1 : Int32), iv (1 : Int32), rv b108, .unset, .unset, .unset, .unset, .unset, .unset, .unset] [(.int ((p1 &&& (255 : Int32))).toUInt32.toUInt16.toUInt32.toInt32), (.int (0 : Int32)), (.ref b118), (.ref b118), (.ref b116), (.ref b116)])) rfl rfl (hb hby at_101)
    have N123 := Fr.snoc X123 N113 ge_b118
    have Z123 : n0 ≤ h123.size := Nat.le_trans Z118 (Nat.le_of_eq W123.size.symm)
    have K123 : Keep h0 h123 [] := K118.wr W123 (Or.inr sz_b118)
    have V123 : Arv Z h123 b118 k118 .char (2 : Int32) [(.int (nar .char ((p1 &&& (255 : Int32))).toUInt32.toUInt16.toUInt32.toInt32)), (.int (0 : Int32))] (.int (0 : Int32)) := Arv.set Ar122 qk122 Sz122 Ng122 Hs122 Gs122 (fits_nar_char _) W123 0 rfl (Nat.le_of_ble_eq_true rfl)
    obtain ⟨cl124, Ar124, qk124, Sz124, Ng124, Hs124, Gs124⟩ := id V123
    have hin124 : ¬ ((1 : Int32) < 0 ∨ cl124.slots.size ≤ ((1 : Int32)).toNatClampNeg) := inb_of Sz124 ⟨by decide, by decide⟩
    obtain ⟨T125, h125, X125, e125, W125, st125⟩ := stC X123 hx hZ e123 Ar124 (j := (1 : Int32)) hin124 (g := (mkF m 106 #[iv p0, iv p1, iv p2, iv p3, iv (((1 : Int32) + (2 : Int32))), iv (1 : Int32), iv (1 : Int32), rv b108, .unset, .unset, .unset, .unset, .unset, .unset, .unset] [(.int (98 : Int32)), (.int (1 : Int32)), (.ref b118), (.ref b118), (.ref b116), (.ref b116)])) rfl rfl (hb hby at_106)
    have N125 := Fr.snoc X125 N123 ge_b118
    have Z125 : n0 ≤ h125.size := Nat.le_trans Z123 (Nat.le_of_eq W125.size.symm)
    have K125 : Keep h0 h125 [] := K123.wr W125 (Or.inr sz_b118)
    have V125 : Arv Z h125 b118 k118 .char (2 : Int32) [(.int (nar .char ((p1 &&& (255 : Int32))).toUInt32.toUInt16.toUInt32.toInt32)), (.int (nar .char (98 : Int32)))] (.int (0 : Int32)) := Arv.set Ar124 qk124 Sz124 Ng124 Hs124 Gs124 (fits_nar_char _) W125 1 rfl (Nat.le_of_ble_eq_true rfl)
    have f126 := (((A116.ext E118).wr W123).wr W125)
    have f127 := (((F116_value.ext E118).other W123 (Or.inl ne_b116_b118)).other W125 (Or.inl ne_b116_b118))
    have f128 := (((F116_coder.ext E118).other W123 (Or.inl ne_b116_b118)).other W125 (Or.inl ne_b116_b118))
    have f129 := (((((own_stak ((hS.ext E108).ext E109) K113 (allS (own_exns f110) all0)).ext E116).ext E118).wr W123).wr W125)
    obtain ⟨_, T130, Lc130, X130, hQ130, st130⟩ := own_special (W := 1) (y := mN4) X125 hx hZ rfl hown (hw _ (List.mem_of_getElem? (i := 5) rfl)) (hw _ (List.mem_of_getElem? (i := 6) rfl)) (hw _ (List.mem_of_getElem? (i := 7) rfl)) (hw _ (List.mem_of_getElem? (i := 3) rfl)) (by decide) (rmSi2_2 l Z av0 hw [] b116 b118 k118 wC (nar .char ((p1 &&& (255 : Int32))).toUInt32.toUInt16.toUInt32.toInt32) (nar .char (98 : Int32)) h125 n0 Z125 f126 f127 f128 ge_b116 V125 f129 hw0 (own_ch p1) (by decide)) (by decide) (by decide) (g := (mkF m 107 #[iv p0, iv p1, iv p2, iv p3, iv (((1 : Int32) + (2 : Int32))), iv (1 : Int32), iv (1 : Int32), rv b108, .unset, .unset, .unset, .unset, .unset, .unset, .unset] [(.ref b118), (.ref b116), (.ref b116)])) rfl (by rw [hml]; rfl) (a := b116) (argsL := [(.ref b118)]) (rest := [(.ref b116)]) (lenOf pd__C_V rfl) rfl (by show 2 * 0 + _ ≤ _; exact Nat.le_of_eq rfl) (hb hby at_107) rfl e125 (by decide : 6 + 1 ≤ _) (by decide : 14 + 2 ≤ _)
    obtain ⟨rfl, N130q, K130, FC130, b130, kb130, FV130, V130, gb130⟩ := hQ130
    have N130 := Fr.app N125 N130q
    have e130 : T130.heap = T130.heap := rfl
    have f131 := (((f119.ext E118).wr W123).wr W125)
    have ne_b108_b130 : b108 ≠ b130 := Nat.ne_of_lt (Nat.lt_of_lt_of_le f131.lt gb130)
    have f132 := (((f120.ext E118).other W123 ne_b109_b118).other W125 ne_b109_b118)
    have ne_b109_b130 : b109 ≠ b130 := Nat.ne_of_lt (Nat.lt_of_lt_of_le f132.lt gb130)
    have f133 := (((f121.ext E118).other W123 ne_b113_b118).other W125 ne_b113_b118)
    have ne_b113_b130 : b113 ≠ b130 := Nat.ne_of_lt (Nat.lt_of_lt_of_le f133.lt gb130)
    have ne_b116_b130 : b116 ≠ b130 := Nat.ne_of_lt (Nat.lt_of_lt_of_le f126.lt gb130)
    have ne_b118_b130 : b118 ≠ b130 := Nat.ne_of_lt (Nat.lt_of_lt_of_le V125.lt gb130)
    have ge_b130 : n0 ≤ b130 := Nat.le_trans Z125 gb130
    have sz_b130 : h0.size ≤ b130 := Nat.le_trans K125.1 gb130
    have Zk130 : n0 ≤ T130.heap.size := Nat.le_trans Z125 K130.1
    have Kk130 : Keep h0 T130.heap [] := K125.trans K130 (allS (Or.inr sz_b116) all0)
    obtain ⟨T134, h134, X134, e134, E134, A134, D134, -, st134⟩ := newO X130 hx hZ hown (hw _ (List.mem_of_getElem? (i := 1) rfl)) (hw _ (List.mem_of_getElem? (i := 2) rfl)) (hw _ (List.mem_of_getElem? (i := 3) rfl)) e130 (g := (mkF m 112 #[iv p0, iv p1, iv p2, iv p3, iv (((1 : Int32) + (2 : Int32))), iv (1 : Int32), iv (1 : Int32), rv b108, rv b116, .unset, .unset, .unset, .unset, .unset, .unset] [])) rfl (hb hby at_112) (by decide) (by decide)
    obtain ⟨b134, g134⟩ : ∃ z, z = T130.heap.size := ⟨_, rfl⟩
    rw [← g134] at A134 D134 st134
    have f135 := (f131.keep K130)
    have ne_b108_b134 : b108 ≠ b134 := Nat.ne_of_lt (Nat.lt_of_lt_of_le f135.lt (Nat.le_of_eq g134.symm))
    have f136 := (f132.keep K130 (ninS ne_b109_b116 nin0))
    have ne_b109_b134 : b109 ≠ b134 := Nat.ne_of_lt (Nat.lt_of_lt_of_le f136.lt (Nat.le_of_eq g134.symm))
    have f137 := (f133.keep K130 (ninS ne_b113_b116 nin0))
    have ne_b113_b134 : b113 ≠ b134 := Nat.ne_of_lt (Nat.lt_of_lt_of_le f137.lt (Nat.le_of_eq g134.symm))
    have f138 := (f126.keep K130)
    have ne_b116_b134 : b116 ≠ b134 := Nat.ne_of_lt (Nat.lt_of_lt_of_le f138.lt (Nat.le_of_eq g134.symm))
    have f139 := (V125.keep K130 (ninS (Ne.symm ne_b116_b118) nin0))
    have ne_b118_b134 : b118 ≠ b134 := Nat.ne_of_lt (Nat.lt_of_lt_of_le f139.lt (Nat.le_of_eq g134.symm))
    have ne_b130_b134 : b130 ≠ b134 := Nat.ne_of_lt (Nat.lt_of_lt_of_le V130.lt (Nat.le_of_eq g134.symm))
    have ge_b134 : n0 ≤ b134 := Nat.le_trans Zk130 (Nat.le_of_eq g134.symm)
    have sz_b134 : h0.size ≤ b134 := Nat.le_trans Kk130.1 (Nat.le_of_eq g134.symm)
    have Z134 : n0 ≤ h134.size := Nat.le_trans Zk130 E134.1
    have K134 : Keep h0 h134 [] := Kk130.ext E134
    have F134_coder : Fld Z h134 b134 "java/lang/String" "coder" "B" (.int (0 : Int32)) := D134 (Or.inr (hw _ (List.mem_of_getElem? (i := 28) rfl))) (ty := .byte) (by decide)
    have F134_value : Fld Z h134 b134 "java/lang/String" "value" "[B" .null := D134 (Or.inr (hw _ (List.mem_of_getElem? (i := 30) rfl))) (ty := (.array .byte)) (by decide)
    obtain ⟨T140, h140, k140, X140, e140, E140, A140, st140⟩ := newP X134 hx hZ (hw _ (List.mem_of_getElem? (i := 4) rfl)) e134 (g := (mkF m 117 #[iv p0, iv p1, iv p2, iv p3, iv (((1 : Int32) + (2 : Int32))), iv (1 : Int32), iv (1 : Int32), rv b108, rv b116, .unset, .unset, .unset, .unset, .unset, .unset] [(.int (2 : Int32)), (.ref b134), (.ref b134)])) rfl (hb hby at_117) rfl (by decide) (cap := 2) (by decide) (by decide) (by decide) (by decide)
    obtain ⟨b140, g140⟩ : ∃ z, z = h134.size := ⟨_, rfl⟩
    rw [← g140] at A140 st140
    have f141 := (f135.ext E134)
    have ne_b108_b140 : b108 ≠ b140 := Nat.ne_of_lt (Nat.lt_of_lt_of_le f141.lt (Nat.le_of_eq g140.symm))
    have f142 := (f136.ext E134)
    have ne_b109_b140 : b109 ≠ b140 := Nat.ne_of_lt (Nat.lt_of_lt_of_le f142.lt (Nat.le_of_eq g140.symm))
    have f143 := (f137.ext E134)
    have ne_b113_b140 : b113 ≠ b140 := Nat.ne_of_lt (Nat.lt_of_lt_of_le f143.lt (Nat.le_of_eq g140.symm))
    have f144 := (f138.ext E134)
    have ne_b116_b140 : b116 ≠ b140 := Nat.ne_of_lt (Nat.lt_of_lt_of_le f144.lt (Nat.le_of_eq g140.symm))
    have f145 := (f139.ext E134)
    have ne_b118_b140 : b118 ≠ b140 := Nat.ne_of_lt (Nat.lt_of_lt_of_le f145.lt (Nat.le_of_eq g140.symm))
    have f146 := (V130.ext E134)
    have ne_b130_b140 : b130 ≠ b140 := Nat.ne_of_lt (Nat.lt_of_lt_of_le f146.lt (Nat.le_of_eq g140.symm))
    have ne_b134_b140 : b134 ≠ b140 := Nat.ne_of_lt (Nat.lt_of_lt_of_le A134.lt (Nat.le_of_eq g140.symm))
    have ge_b140 : n0 ≤ b140 := Nat.le_trans Z134 (Nat.le_of_eq g140.symm)
    have sz_b140 : h0.size ≤ b140 := Nat.le_trans K134.1 (Nat.le_of_eq g140.symm)
    have Z140 : n0 ≤ h140.size := Nat.le_trans Z134 E140.1
    have K140 : Keep h0 h140 [] := K134.ext E140
    have V140 : Arv Z h140 b140 k140 .char (2 : Int32) [(.int (0 : Int32)), (.int (0 : Int32))] (.int (0 : Int32)) := (Arv.new A140 (by decide)).pad (pad_rep [] (.int (0 : Int32)) 2)
    obtain ⟨cl147, Ar147, qk147, Sz147, Ng147, Hs147, Gs147⟩ := id V140
    have hin147 : ¬ ((0 : Int32) < 0 ∨ cl147.slots.size ≤ ((0 : Int32)).toNatClampNeg) := inb_of Sz147 ⟨by decide, by decide⟩
    obtain ⟨T148, h148, X148, e148, W148, st148⟩ := stC X140 hx hZ e140 Ar147 (j := (0 : Int32)) hin147 (g := (mkF m 127 #[iv p0, iv p1, iv p2, iv p3, iv (((1 : Int32) + (2 : Int32))), iv (1 : Int32), iv (1 : Int32), rv b108, rv b116, .unset, .unset, .unset, .unset, .unset, .unset] [(.int ((p2 &&& (255 : Int32))).toUInt32.toUInt16.toUInt32.toInt32), (.int (0 : Int32)), (.ref b140), (.ref b140), (.ref b134), (.ref b134)])) rfl rfl (hb hby at_127)
    have N148 := Fr.snoc X148 N130 ge_b140
    have Z148 : n0 ≤ h148.size := Nat.le_trans Z140 (Nat.le_of_eq W148.size.symm)
    have K148 : Keep h0 h148 [] := K140.wr W148 (Or.inr sz_b140)
    have V148 : Arv Z h148 b140 k140 .char (2 : Int32) [(.int (nar .char ((p2 &&& (255 : Int32))).toUInt32.toUInt16.toUInt32.toInt32)), (.int (0 : Int32))] (.int (0 : Int32)) := Arv.set Ar147 qk147 Sz147 Ng147 Hs147 Gs147 (fits_nar_char _) W148 0 rfl (Nat.le_of_ble_eq_true rfl)
    obtain ⟨cl149, Ar149, qk149, Sz149, Ng149, Hs149, Gs149⟩ := id V148
    have hin149 : ¬ ((1 : Int32) < 0 ∨ cl149.slots.size ≤ ((1 : Int32)).toNatClampNeg) := inb_of Sz149 ⟨by decide, by decide⟩
    obtain ⟨T150, h150, X150, e150, W150, st150⟩ := stC X148 hx hZ e148 Ar149 (j := (1 : Int32)) hin149 (g := (mkF m 132 #[iv p0, iv p1, iv p2, iv p3, iv (((1 : Int32) + (2 : Int32))), iv (1 : Int32), iv (1 : Int32), rv b108, rv b116, .unset, .unset, .unset, .unset, .unset, .unset] [(.int (99 : Int32)), (.int (1 : Int32)), (.ref b140), (.ref b140), (.ref b134), (.ref b134)])) rfl rfl (hb hby at_132)
    have N150 := Fr.snoc X150 N148 ge_b140
    have Z150 : n0 ≤ h150.size := Nat.le_trans Z148 (Nat.le_of_eq W150.size.symm)
    have K150 : Keep h0 h150 [] := K148.wr W150 (Or.inr sz_b140)
    have V150 : Arv Z h150 b140 k140 .char (2 : Int32) [(.int (nar .char ((p2 &&& (255 : Int32))).toUInt32.toUInt16.toUInt32.toInt32)), (.int (nar .char (99 : Int32)))] (.int (0 : Int32)) := Arv.set Ar149 qk149 Sz149 Ng149 Hs149 Gs149 (fits_nar_char _) W150 1 rfl (Nat.le_of_ble_eq_true rfl)
    have f151 := (((A134.ext E140).wr W148).wr W150)
    have f152 := (((F134_value.ext E140).other W148 (Or.inl ne_b134_b140)).other W150 (Or.inl ne_b134_b140))
    have f153 := (((F134_coder.ext E140).other W148 (Or.inl ne_b134_b140)).other W150 (Or.inl ne_b134_b140))
    have f154 := (((((own_stak f129 K130 (allS (own_exns f126) all0)).ext E134).ext E140).wr W148).wr W150)
    obtain ⟨_, T155, Lc155, X155, hQ155, st155⟩ := own_special (W := 1) (y := mN4) X150 hx hZ rfl hown (hw _ (List.mem_of_getElem? (i := 5) rfl)) (hw _ (List.mem_of_getElem? (i := 6) rfl)) (hw _ (List.mem_of_getElem? (i := 7) rfl)) (hw _ (List.mem_of_getElem? (i := 3) rfl)) (by decide) (rmSi2_2 l Z av0 hw [] b134 b140 k140 wC (nar .char ((p2 &&& (255 : Int32))).toUInt32.toUInt16.toUInt32.toInt32) (nar .char (99 : Int32)) h150 n0 Z150 f151 f152 f153 ge_b134 V150 f154 hw0 (own_ch p2) (by decide)) (by decide) (by decide) (g := (mkF m 133 #[iv p0, iv p1, iv p2, iv p3, iv (((1 : Int32) + (2 : Int32))), iv (1 : Int32), iv (1 : Int32), rv b108, rv b116, .unset, .unset, .unset, .unset, .unset, .unset] [(.ref b140), (.ref b134), (.ref b134)])) rfl (by rw [hml]; rfl) (a := b134) (argsL := [(.ref b140)]) (rest := [(.ref b134)]) (lenOf pd__C_V rfl) rfl (by show 2 * 0 + _ ≤ _; exact Nat.le_of_eq rfl) (hb hby at_133) rfl e150 (by decide : 9 + 1 ≤ _) (by decide : 22 + 2 ≤ _)
    obtain ⟨rfl, N155q, K155, FC155, b155, kb155, FV155, V155, gb155⟩ := hQ155
    have N155 := Fr.app N150 N155q
    have e155 : T155.heap = T155.heap := rfl
    have f156 := (((f141.ext E140).wr W148).wr W150)
    have ne_b108_b155 : b108 ≠ b155 := Nat.ne_of_lt (Nat.lt_of_lt_of_le f156.lt gb155)
    have f157 := (((f142.ext E140).other W148 ne_b109_b140).other W150 ne_b109_b140)
    have ne_b109_b155 : b109 ≠ b155 := Nat.ne_of_lt (Nat.lt_of_lt_of_le f157.lt gb155)
    have f158 := (((f143.ext E140).other W148 ne_b113_b140).other W150 ne_b113_b140)
    have ne_b113_b155 : b113 ≠ b155 := Nat.ne_of_lt (Nat.lt_of_lt_of_le f158.lt gb155)
    have f159 := (((f144.ext E140).wr W148).wr W150)
    have ne_b116_b155 : b116 ≠ b155 := Nat.ne_of_lt (Nat.lt_of_lt_of_le f159.lt gb155)
    have f160 := (((f145.ext E140).other W148 ne_b118_b140).other W150 ne_b118_b140)
    have ne_b118_b155 : b118 ≠ b155 := Nat.ne_of_lt (Nat.lt_of_lt_of_le f160.lt gb155)
    have f161 := (((f146.ext E140).other W148 ne_b130_b140).other W150 ne_b130_b140)
    have ne_b130_b155 : b130 ≠ b155 := Nat.ne_of_lt (Nat.lt_of_lt_of_le f161.lt gb155)
    have ne_b134_b155 : b134 ≠ b155 := Nat.ne_of_lt (Nat.lt_of_lt_of_le f151.lt gb155)
    have ne_b140_b155 : b140 ≠ b155 := Nat.ne_of_lt (Nat.lt_of_lt_of_le V150.lt gb155)
    have ge_b155 : n0 ≤ b155 := Nat.le_trans Z150 gb155
    have sz_b155 : h0.size ≤ b155 := Nat.le_trans K150.1 gb155
    have Zk155 : n0 ≤ T155.heap.size := Nat.le_trans Z150 K155.1
    have Kk155 : Keep h0 T155.heap [] := K150.trans K155 (allS (Or.inr sz_b134) all0)
    obtain ⟨T162, h162, k162, X162, e162, E162, A162, O162, st162⟩ := newR X155 hx hZ hown (hw _ (List.mem_of_getElem? (i := 1) rfl)) (hw _ (List.mem_of_getElem? (i := 31) rfl)) e155 (g := (mkF m 140 #[iv p0, iv p1, iv p2, iv p3, iv (((1 : Int32) + (2 : Int32))), iv (1 : Int32), iv (1 : Int32), rv b108, rv b116, rv b134, .unset, .unset, .unset, .unset, .unset] [(.int ((1 : Int32) + (2 : Int32)))])) rfl (hb hby at_140) rfl (by decide) (cap := 3) (by decide) (by decide) (by decide) (by decide)
    obtain ⟨b162, g162⟩ : ∃ z, z = T155.heap.size := ⟨_, rfl⟩
    rw [← g162] at A162 st162
    have f163 := (f156.keep K155)
    have ne_b108_b162 : b108 ≠ b162 := Nat.ne_of_lt (Nat.lt_of_lt_of_le f163.lt (Nat.le_of_eq g162.symm))
    have f164 := (f157.keep K155 (ninS ne_b109_b134 nin0))
    have ne_b109_b162 : b109 ≠ b162 := Nat.ne_of_lt (Nat.lt_of_lt_of_le f164.lt (Nat.le_of_eq g162.symm))
    have f165 := (f158.keep K155 (ninS ne_b113_b134 nin0))
    have ne_b113_b162 : b113 ≠ b162 := Nat.ne_of_lt (Nat.lt_of_lt_of_le f165.lt (Nat.le_of_eq g162.symm))
    have f166 := (f159.keep K155)
    have ne_b116_b162 : b116 ≠ b162 := Nat.ne_of_lt (Nat.lt_of_lt_of_le f166.lt (Nat.le_of_eq g162.symm))
    have f167 := (f160.keep K155 (ninS ne_b118_b134 nin0))
    have ne_b118_b162 : b118 ≠ b162 := Nat.ne_of_lt (Nat.lt_of_lt_of_le f167.lt (Nat.le_of_eq g162.symm))
    have f168 := (f161.keep K155 (ninS ne_b130_b134 nin0))
    have ne_b130_b162 : b130 ≠ b162 := Nat.ne_of_lt (Nat.lt_of_lt_of_le f168.lt (Nat.le_of_eq g162.symm))
    have f169 := (f151.keep K155)
    have ne_b134_b162 : b134 ≠ b162 := Nat.ne_of_lt (Nat.lt_of_lt_of_le f169.lt (Nat.le_of_eq g162.symm))
    have f170 := (V150.keep K155 (ninS (Ne.symm ne_b134_b140) nin0))
    have ne_b140_b162 : b140 ≠ b162 := Nat.ne_of_lt (Nat.lt_of_lt_of_le f170.lt (Nat.le_of_eq g162.symm))
    have ne_b155_b162 : b155 ≠ b162 := Nat.ne_of_lt (Nat.lt_of_lt_of_le V155.lt (Nat.le_of_eq g162.symm))
    have ge_b162 : n0 ≤ b162 := Nat.le_trans Zk155 (Nat.le_of_eq g162.symm)
    have sz_b162 : h0.size ≤ b162 := Nat.le_trans Kk155.1 (Nat.le_of_eq g162.symm)
    have Z162 : n0 ≤ h162.size := Nat.le_trans Zk155 E162.1
    have K162 : Keep h0 h162 [] := Kk155.ext E162
    have V162 : Arv Z h162 b162 k162 (.object "java/lang/String") ((1 : Int32) + (2 : Int32)) [.null, .null, .null] .null := (Arv.new A162 (by decide)).pad (pad_rep [] .null 3)
    obtain ⟨cl171, Ar171, qk171, Sz171, Ng171, Hs171, Gs171⟩ := id V162
    have hin171 : ¬ ((0 : Int32) < 0 ∨ cl171.slots.size ≤ ((0 : Int32)).toNatClampNeg) := inb_of Sz171 ⟨by decide, by decide⟩
    have f172 := (f163.ext E162)
    obtain ⟨T173, h173, X173, e173, W173, st173⟩ := stR X162 hx hZ e162 Ar171 (j := (0 : Int32)) hin171 rfl (Sto.ofV Ar171 qk171 O162 (Ins.self f172)) (g := (mkF m 150 #[iv p0, iv p1, iv p2, iv p3, iv (((1 : Int32) + (2 : Int32))), iv (1 : Int32), iv (1 : Int32), rv b108, rv b116, rv b134, rv b162, .unset, .unset, .unset, .unset] [(.ref b108), (.int (0 : Int32)), (.ref b162)])) rfl rfl (hb hby at_150)
    have N173 := Fr.snoc X173 N155 ge_b162
    have Z173 : n0 ≤ h173.size := Nat.le_trans Z162 (Nat.le_of_eq W173.size.symm)
    have K173 : Keep h0 h173 [] := K162.wr W173 (Or.inr sz_b162)
    have V173 : Arv Z h173 b162 k162 (.object "java/lang/String") ((1 : Int32) + (2 : Int32)) [(.ref b108), .null, .null] .null := Arv.set Ar171 qk171 Sz171 Ng171 Hs171 Gs171 rfl W173 0 rfl (Nat.le_of_ble_eq_true rfl)
    obtain ⟨cl174, Ar174, qk174, Sz174, Ng174, Hs174, Gs174⟩ := id V173
    have hin174 : ¬ ((1 : Int32) < 0 ∨ cl174.slots.size ≤ ((1 : Int32)).toNatClampNeg) := inb_of Sz174 ⟨by decide, by decide⟩
    have f175 := ((f166.ext E162).wr W173)
    obtain ⟨T176, h176, X176, e176, W176, st176⟩ := stR X173 hx hZ e173 Ar174 (j := (1 : Int32)) hin174 rfl (Sto.ofV Ar174 qk174 O162 (Ins.self f175)) (g := (mkF m 162 #[iv p0, iv p1, iv p2, iv p3, iv (((1 : Int32) + (2 : Int32))), iv (1 : Int32), iv (1 : Int32), rv b108, rv b116, rv b134, rv b162, .unset, .unset, .unset, .unset] [(.ref b116), (.int (1 : Int32)), (.ref b162)])) rfl rfl (hb hby at_162)
    have N176 := Fr.snoc X176 N173 ge_b162
    have Z176 : n0 ≤ h176.size := Nat.le_trans Z173 (Nat.le_of_eq W176.size.symm)
    have K176 : Keep h0 h176 [] := K173.wr W176 (Or.inr sz_b162)
    have V176 : Arv Z h176 b162 k162 (.object "java/lang/String") ((1 : Int32) + (2 : Int32)) [(.ref b108), (.ref b116), .null] .null := Arv.set Ar174 qk174 Sz174 Ng174 Hs174 Gs174 rfl W176 1 rfl (Nat.le_of_ble_eq_true rfl)
    obtain ⟨cl177, Ar177, qk177, Sz177, Ng177, Hs177, Gs177⟩ := id V176
    have hin177 : ¬ ((2 : Int32) < 0 ∨ cl177.slots.size ≤ ((2 : Int32)).toNatClampNeg) := inb_of Sz177 ⟨by decide, by decide⟩
    have f178 := (((f169.ext E162).wr W173).wr W176)
    obtain ⟨T179, h179, X179, e179, W179, st179⟩ := stR X176 hx hZ e176 Ar177 (j := (2 : Int32)) hin177 rfl (Sto.ofV Ar177 qk177 O162 (Ins.self f178)) (g := (mkF m 174 #[iv p0, iv p1, iv p2, iv p3, iv (((1 : Int32) + (2 : Int32))), iv (1 : Int32), iv (1 : Int32), rv b108, rv b116, rv b134, rv b162, .unset, .unset, .unset, .unset] [(.ref b134), (.int (2 : Int32)), (.ref b162)])) rfl rfl (hb hby at_174)
    have N179 := Fr.snoc X179 N176 ge_b162
    have Z179 : n0 ≤ h179.size := Nat.le_trans Z176 (Nat.le_of_eq W179.size.symm)
    have K179 : Keep h0 h179 [] := K176.wr W179 (Or.inr sz_b162)
    have V179 : Arv Z h179 b162 k162 (.object "java/lang/String") ((1 : Int32) + (2 : Int32)) [(.ref b108), (.ref b116), (.ref b134)] .null := Arv.set Ar177 qk177 Sz177 Ng177 Hs177 Gs177 rfl W179 2 rfl (Nat.le_of_ble_eq_true rfl)
    obtain ⟨T180, h180, X180, e180, E180, A180, D180, -, st180⟩ := newO X179 hx hZ hown (hw _ (List.mem_of_getElem? (i := 32) rfl)) (hw _ (List.mem_of_getElem? (i := 33) rfl)) (hw _ (List.mem_of_getElem? (i := 34) rfl)) e179 (g := (mkF m 175 #[iv p0, iv p1, iv p2, iv p3, iv (((1 : Int32) + (2 : Int32))), iv (1 : Int32), iv (1 : Int32), rv b108, rv b116, rv b134, rv b162, .unset, .unset, .unset, .unset] [])) rfl (hb hby at_175) (by decide) (by decide)
    obtain ⟨b180, g180⟩ : ∃ z, z = h179.size := ⟨_, rfl⟩
    rw [← g180] at A180 D180 st180
    have f181 := (((f172.wr W173).wr W176).wr W179)
    have ne_b108_b180 : b108 ≠ b180 := Nat.ne_of_lt (Nat.lt_of_lt_of_le f181.lt (Nat.le_of_eq g180.symm))
    have f182 := ((((f164.ext E162).other W173 ne_b109_b162).other W176 ne_b109_b162).other W179 ne_b109_b162)
    have ne_b109_b180 : b109 ≠ b180 := Nat.ne_of_lt (Nat.lt_of_lt_of_le f182.lt (Nat.le_of_eq g180.symm))
    have f183 := ((((f165.ext E162).other W173 ne_b113_b162).other W176 ne_b113_b162).other W179 ne_b113_b162)
    have ne_b113_b180 : b113 ≠ b180 := Nat.ne_of_lt (Nat.lt_of_lt_of_le f183.lt (Nat.le_of_eq g180.symm))
    have f184 := ((f175.wr W176).wr W179)
    have ne_b116_b180 : b116 ≠ b180 := Nat.ne_of_lt (Nat.lt_of_lt_of_le f184.lt (Nat.le_of_eq g180.symm))
    have f185 := ((((f167.ext E162).other W173 ne_b118_b162).other W176 ne_b118_b162).other W179 ne_b118_b162)
    have ne_b118_b180 : b118 ≠ b180 := Nat.ne_of_lt (Nat.lt_of_lt_of_le f185.lt (Nat.le_of_eq g180.symm))
    have f186 := ((((f168.ext E162).other W173 ne_b130_b162).other W176 ne_b130_b162).other W179 ne_b130_b162)
    have ne_b130_b180 : b130 ≠ b180 := Nat.ne_of_lt (Nat.lt_of_lt_of_le f186.lt (Nat.le_of_eq g180.symm))
    have f187 := (f178.wr W179)
    have ne_b134_b180 : b134 ≠ b180 := Nat.ne_of_lt (Nat.lt_of_lt_of_le f187.lt (Nat.le_of_eq g180.symm))
    have f188 := ((((f170.ext E162).other W173 ne_b140_b162).other W176 ne_b140_b162).other W179 ne_b140_b162)
    have ne_b140_b180 : b140 ≠ b180 := Nat.ne_of_lt (Nat.lt_of_lt_of_le f188.lt (Nat.le_of_eq g180.symm))
    have f189 := ((((V155.ext E162).other W173 ne_b155_b162).other W176 ne_b155_b162).other W179 ne_b155_b162)
    have ne_b155_b180 : b155 ≠ b180 := Nat.ne_of_lt (Nat.lt_of_lt_of_le f189.lt (Nat.le_of_eq g180.symm))
    have ne_b162_b180 : b162 ≠ b180 := Nat.ne_of_lt (Nat.lt_of_lt_of_le V179.lt (Nat.le_of_eq g180.symm))
    have ge_b180 : n0 ≤ b180 := Nat.le_trans Z179 (Nat.le_of_eq g180.symm)
    have sz_b180 : h0.size ≤ b180 := Nat.le_trans K179.1 (Nat.le_of_eq g180.symm)
    have Z180 : n0 ≤ h180.size := Nat.le_trans Z179 E180.1
    have K180 : Keep h0 h180 [] := K179.ext E180
    have F180_arguments : Fld Z h180 b180 "com/example/steady_courier/steadycourier/OptionReader" "arguments" "[Ljava/lang/String;" .null := D180 (Or.inr (hw _ (List.mem_of_getElem? (i := 40) rfl))) (ty := (.array (.object "java/lang/String"))) (by decide)
    have F180_next : Fld Z h180 b180 "com/example/steady_courier/steadycourier/OptionReader" "next" "I" (.int (0 : Int32)) := D180 (Or.inl (hw _ (List.mem_of_getElem? (i := 47) rfl))) (ty := .int) (by decide)
    obtain ⟨_, T190, Lc190, X190, hQ190, st190⟩ := own_special (W := 1) (y := mN5) X180 hx hZ rfl hown (hw _ (List.mem_of_getElem? (i := 35) rfl)) (hw _ (List.mem_of_getElem? (i := 36) rfl)) (hw _ (List.mem_of_getElem? (i := 37) rfl)) (hw _ (List.mem_of_getElem? (i := 34) rfl)) (by decide) (rmInit l Z av0 hw [] b180 b162 h180 n0 Z180 A180 F180_arguments F180_next ge_b180) (by decide) (by decide) (g := (mkF m 181 #[iv p0, iv p1, iv p2, iv p3, iv (((1 : Int32) + (2 : Int32))), iv (1 : Int32), iv (1 : Int32), rv b108, rv b116, rv b134, rv b162, .unset, .unset, .unset, .unset] [(.ref b162), (.ref b180), (.ref b180)])) rfl (by rw [hml]; rfl) (a := b180) (argsL := [(.ref b162)]) (rest := [(.ref b180)]) (lenOf pd__Ljava_lang_String_V rfl) rfl (by show 2 * 0 + _ ≤ _; exact Nat.le_of_eq rfl) (hb hby at_181) rfl e180 (by decide : 12 + 0 ≤ _) (by decide : 29 + 0 ≤ _)
    obtain ⟨rfl, N190q, K190, FA190, FN190⟩ := hQ190
    have N190 := Fr.app N179 N190q
    have e190 : T190.heap = T190.heap := rfl
    have Zk190 : n0 ≤ T190.heap.size := Nat.le_trans Z180 K190.1
    have Kk190 : Keep h0 T190.heap [] := K180.trans K190 (allS (Or.inr sz_b180) all0)
    have f191 := ((V179.ext E180).keep K190 (ninS ne_b162_b180 nin0))
    have f193 := (A180.keep K190)
    obtain ⟨_, T192, Lc192, X192, hQ192, st192⟩ := own_virtual (W := 0) (y := mN6) (z := mN6) X190 hx hZ hown (hw _ (List.mem_of_getElem? (i := 41) rfl)) (hw _ (List.mem_of_getElem? (i := 42) rfl)) (notFace_of_selects (args := #[]) (mvT hZ (hw _ (List.mem_of_getElem? (i := 44) rfl)))) (hw _ (List.mem_of_getElem? (i := 44) rfl)) (hw _ (List.mem_of_getElem? (i := 43) rfl)) (hw _ (List.mem_of_getElem? (i := 45) rfl)) (hw _ (List.mem_of_getElem? (i := 34) rfl)) (by decide) (rmHas l Z av0 hw [] b180 b162 k162 ((1 : Int32) + (2 : Int32)) [(.ref b108), (.ref b116), (.ref b134)] (0 : Int32) T190.heap n0 Zk190 FA190 FN190 f191) (by decide) (by decide) f193 (g := (mkF m 188 #[iv p0, iv p1, iv p2, iv p3, iv (((1 : Int32) + (2 : Int32))), iv (1 : Int32), iv (1 : Int32), rv b108, rv b116, rv b134, rv b162, rv b180, .unset, .unset, .unset] [(.ref b180)])) rfl (by rw [hml]; rfl) (argsL := []) (rest := []) (lenOf pd__Z rfl) rfl (by show 2 * 0 + _ ≤ _; exact Nat.le_of_eq rfl) (hb hby at_188) rfl e190 (by decide : 12 + 0 ≤ _) (by decide : 29 + 0 ≤ _)
    obtain ⟨rfl, N192q, hh192⟩ := hQ192
    have N192 := Fr.app N190 N192q
    have e192 : T192.heap = T190.heap := hh192
    obtain ⟨_, T194, Lc194, X194, hQ194, st194⟩ := own_virtual (W := 0) (y := mN7) (z := mN7) X192 hx hZ hown (hw _ (List.mem_of_getElem? (i := 48) rfl)) (hw _ (List.mem_of_getElem? (i := 49) rfl)) (notFace_of_selects (args := #[]) (mvT hZ (hw _ (List.mem_of_getElem? (i := 51) rfl)))) (hw _ (List.mem_of_getElem? (i := 51) rfl)) (hw _ (List.mem_of_getElem? (i := 50) rfl)) (hw _ (List.mem_of_getElem? (i := 52) rfl)) (hw _ (List.mem_of_getElem? (i := 34) rfl)) (by decide) (rmOpt l Z av0 hw [] b180 b162 k162 ((1 : Int32) + (2 : Int32)) [(.ref b108), (.ref b116), (.ref b134)] (0 : Int32) b108 T190.heap n0 Zk190 FA190 FN190 f191 f193 ge_b180 (Ne.symm ne_b162_b180) (by decide) rfl) (by decide) (by decide) f193 (g := (mkF m 198 #[iv p0, iv p1, iv p2, iv p3, iv (((1 : Int32) + (2 : Int32))), iv (1 : Int32), iv (1 : Int32), rv b108, rv b116, rv b134, rv b162, rv b180, .unset, .unset, .unset] [(.ref b180)])) rfl (by rw [hml]; rfl) (argsL := []) (rest := []) (lenOf pd__Ljava_lang_String_ rfl) rfl (by show 2 * 0 + _ ≤ _; exact Nat.le_of_eq rfl) (hb hby at_198) rfl e192 (by decide : 12 + 0 ≤ _) (by decide : 29 + 0 ≤ _)
    obtain ⟨rfl, N194q, K194, FN194, FA194⟩ := hQ194
    have N194 := Fr.app N192 N194q
    have e194 : T194.heap = T194.heap := rfl
    have Zk194 : n0 ≤ T194.heap.size := Nat.le_trans Zk190 K194.1
    have Kk194 : Keep h0 T194.heap [] := Kk190.trans K194 (allS (Or.inr sz_b180) all0)
    have f196 := (((f181.ext E180).keep K190).keep K194)
    obtain ⟨_, T195, Lc195, X195, hQ195, st195⟩ := own_virtual (W := 0) (y := mN9) (z := mN9) X194 hx hZ hown (hw _ (List.mem_of_getElem? (i := 53) rfl)) (hw _ (List.mem_of_getElem? (i := 54) rfl)) (notFace_of_selects (args := #[]) (mvT hZ (hw _ (List.mem_of_getElem? (i := 56) rfl)))) (hw _ (List.mem_of_getElem? (i := 56) rfl)) (hw _ (List.mem_of_getElem? (i := 55) rfl)) (hw _ (List.mem_of_getElem? (i := 57) rfl)) (hw _ (List.mem_of_getElem? (i := 3) rfl)) (by decide) (rmSame l Z av0 hw [] b108 T194.heap n0 Zk194 ) (by decide) (by decide) f196 (g := (mkF m 207 #[iv p0, iv p1, iv p2, iv p3, iv (((1 : Int32) + (2 : Int32))), iv (1 : Int32), iv (1 : Int32), rv b108, rv b116, rv b134, rv b162, rv b180, rv b108, .unset, .unset] [(.ref b108), (.ref b108)])) rfl (by rw [hml]; rfl) (argsL := [(.ref b108)]) (rest := []) (lenOf pd__Ljava_lang_Object_Z rfl) rfl (by show 2 * 0 + _ ≤ _; exact Nat.le_of_eq rfl) (hb hby at_207) rfl e194 (by decide : 12 + 0 ≤ _) (by decide : 29 + 0 ≤ _)
    obtain ⟨rfl, N195q, hh195⟩ := hQ195
    have N195 := Fr.app N194 N195q
    have e195 : T195.heap = T194.heap := hh195
    have f197 := (f191.keep K194 (ninS ne_b162_b180 nin0))
    have f199 := (f193.keep K194)
    obtain ⟨_, T198, Lc198, X198, hQ198, st198⟩ := own_virtual (W := 0) (y := mN6) (z := mN6) X195 hx hZ hown (hw _ (List.mem_of_getElem? (i := 41) rfl)) (hw _ (List.mem_of_getElem? (i := 42) rfl)) (notFace_of_selects (args := #[]) (mvT hZ (hw _ (List.mem_of_getElem? (i := 44) rfl)))) (hw _ (List.mem_of_getElem? (i := 44) rfl)) (hw _ (List.mem_of_getElem? (i := 43) rfl)) (hw _ (List.mem_of_getElem? (i := 45) rfl)) (hw _ (List.mem_of_getElem? (i := 34) rfl)) (by decide) (rmHas l Z av0 hw [] b180 b162 k162 ((1 : Int32) + (2 : Int32)) [(.ref b108), (.ref b116), (.ref b134)] ((0 : Int32) + (1 : Int32)) T194.heap n0 Zk194 FA194 FN194 f197) (by decide) (by decide) f199 (g := (mkF m 217 #[iv p0, iv p1, iv p2, iv p3, iv (((1 : Int32) + (2 : Int32))), iv (1 : Int32), iv (1 : Int32), rv b108, rv b116, rv b134, rv b162, rv b180, rv b108, .unset, .unset] [(.ref b180)])) rfl (by rw [hml]; rfl) (argsL := []) (rest := []) (lenOf pd__Z rfl) rfl (by show 2 * 0 + _ ≤ _; exact Nat.le_of_eq rfl) (hb hby at_217) rfl e195 (by decide : 12 + 0 ≤ _) (by decide : 29 + 0 ≤ _)
    obtain ⟨rfl, N198q, hh198⟩ := hQ198
    have N198 := Fr.app N195 N198q
    have e198 : T198.heap = T194.heap := hh198
    have f200 := ((((((((((((FV130.ext E134).ext E140).other W148 (Or.inl ne_b116_b140)).other W150 (Or.inl ne_b116_b140)).keep K155 (ninS ne_b116_b134 nin0)).ext E162).other W173 (Or.inl ne_b116_b162)).other W176 (Or.inl ne_b116_b162)).other W179 (Or.inl ne_b116_b162)).ext E180).keep K190 (ninS ne_b116_b180 nin0)).keep K194 (ninS ne_b116_b180 nin0))
    have f201 := (((f186.ext E180).keep K190 (ninS ne_b130_b180 nin0)).keep K194 (ninS ne_b130_b180 nin0))
    have f202 := (((f184.ext E180).keep K190).keep K194)
    obtain ⟨_, T203, Lc203, X203, hQ203, st203⟩ := own_virtual (W := 0) (y := mN10) (z := mN10) X198 hx hZ hown (hw _ (List.mem_of_getElem? (i := 58) rfl)) (hw _ (List.mem_of_getElem? (i := 59) rfl)) (notFace_of_selects (args := #[]) (mvT hZ (hw _ (List.mem_of_getElem? (i := 61) rfl)))) (hw _ (List.mem_of_getElem? (i := 61) rfl)) (hw _ (List.mem_of_getElem? (i := 60) rfl)) (hw _ (List.mem_of_getElem? (i := 62) rfl)) (hw _ (List.mem_of_getElem? (i := 34) rfl)) (by decide) (rmVal l Z av0 hw [] b180 b162 k162 ((1 : Int32) + (2 : Int32)) [(.ref b108), (.ref b116), (.ref b134)] ((0 : Int32) + (1 : Int32)) b116 b108 b130 kb130 (2 : Int32) [(.int (nar .byte ((nar .char ((p1 &&& (255 : Int32))).toUInt32.toUInt16.toUInt32.toInt32)).toInt8.toInt32)), (.int (nar .byte ((nar .char (98 : Int32))).toInt8.toInt32))] T194.heap n0 Zk194 FA194 FN194 f197 f199 ge_b180 (Ne.symm ne_b162_b180) (by decide) rfl f202 f200 f201 (by decide) (Ne.symm ne_b116_b180) (Ne.symm ne_b130_b180) (by decide)) (by decide) (by decide) f199 (g := (mkF m 253 #[iv p0, iv p1, iv p2, iv p3, iv (((1 : Int32) + (2 : Int32))), iv (1 : Int32), iv (1 : Int32), rv b108, rv b116, rv b134, rv b162, rv b180, rv b108, .unset, .unset] [(.ref b108), (.ref b180)])) rfl (by rw [hml]; rfl) (argsL := [(.ref b108)]) (rest := []) (lenOf pd__Ljava_lang_String_Ljava_lang_String_ rfl) rfl (by show 2 * 0 + _ ≤ _; exact Nat.le_of_eq rfl) (hb hby at_253) rfl e198 (by decide : 12 + 0 ≤ _) (by decide : 29 + 0 ≤ _)
    obtain ⟨rfl, N203q, K203, FN203, FA203⟩ := hQ203
    have N203 := Fr.app N198 N203q
    have e203 : T203.heap = T203.heap := rfl
    have Zk203 : n0 ≤ T203.heap.size := Nat.le_trans Zk194 K203.1
    have Kk203 : Keep h0 T203.heap [] := Kk194.trans K203 (allS (Or.inr sz_b180) all0)
    have f205 := (f202.keep K203)
    obtain ⟨_, T204, Lc204, X204, hQ204, st204⟩ := own_virtual (W := 0) (y := mN9) (z := mN9) X203 hx hZ hown (hw _ (List.mem_of_getElem? (i := 53) rfl)) (hw _ (List.mem_of_getElem? (i := 54) rfl)) (notFace_of_selects (args := #[]) (mvT hZ (hw _ (List.mem_of_getElem? (i := 56) rfl)))) (hw _ (List.mem_of_getElem? (i := 56) rfl)) (hw _ (List.mem_of_getElem? (i := 55) rfl)) (hw _ (List.mem_of_getElem? (i := 57) rfl)) (hw _ (List.mem_of_getElem? (i := 3) rfl)) (by decide) (rmSame l Z av0 hw [] b116 T203.heap n0 Zk203 ) (by decide) (by decide) f205 (g := (mkF m 270 #[iv p0, iv p1, iv p2, iv p3, iv (((1 : Int32) + (2 : Int32))), iv (1 : Int32), iv (1 : Int32), rv b108, rv b116, rv b134, rv b162, rv b180, rv b108, rv b116, .unset] [(.ref b116), (.ref b116)])) rfl (by rw [hml]; rfl) (argsL := [(.ref b116)]) (rest := []) (lenOf pd__Ljava_lang_Object_Z rfl) rfl (by show 2 * 0 + _ ≤ _; exact Nat.le_of_eq rfl) (hb hby at_270) rfl e203 (by decide : 12 + 0 ≤ _) (by decide : 29 + 0 ≤ _)
    obtain ⟨rfl, N204q, hh204⟩ := hQ204
    have N204 := Fr.app N203 N204q
    have e204 : T204.heap = T203.heap := hh204
    have f206 := (f197.keep K203 (ninS ne_b162_b180 nin0))
    have f208 := (f199.keep K203)
    obtain ⟨_, T207, Lc207, X207, hQ207, st207⟩ := own_virtual (W := 0) (y := mN6) (z := mN6) X204 hx hZ hown (hw _ (List.mem_of_getElem? (i := 41) rfl)) (hw _ (List.mem_of_getElem? (i := 42) rfl)) (notFace_of_selects (args := #[]) (mvT hZ (hw _ (List.mem_of_getElem? (i := 44) rfl)))) (hw _ (List.mem_of_getElem? (i := 44) rfl)) (hw _ (List.mem_of_getElem? (i := 43) rfl)) (hw _ (List.mem_of_getElem? (i := 45) rfl)) (hw _ (List.mem_of_getElem? (i := 34) rfl)) (by decide) (rmHas l Z av0 hw [] b180 b162 k162 ((1 : Int32) + (2 : Int32)) [(.ref b108), (.ref b116), (.ref b134)] (((0 : Int32) + (1 : Int32)) + (1 : Int32)) T203.heap n0 Zk203 FA203 FN203 f206) (by decide) (by decide) f208 (g := (mkF m 280 #[iv p0, iv p1, iv p2, iv p3, iv (((1 : Int32) + (2 : Int32))), iv (1 : Int32), iv (1 : Int32), rv b108, rv b116, rv b134, rv b162, rv b180, rv b108, rv b116, .unset] [(.ref b180)])) rfl (by rw [hml]; rfl) (argsL := []) (rest := []) (lenOf pd__Z rfl) rfl (by show 2 * 0 + _ ≤ _; exact Nat.le_of_eq rfl) (hb hby at_280) rfl e204 (by decide : 12 + 0 ≤ _) (by decide : 29 + 0 ≤ _)
    obtain ⟨rfl, N207q, hh207⟩ := hQ207
    have N207 := Fr.app N204 N207q
    have e207 : T207.heap = T203.heap := hh207
    obtain ⟨_, T209, Lc209, X209, hQ209, st209⟩ := own_virtual (W := 0) (y := mN7) (z := mN7) X207 hx hZ hown (hw _ (List.mem_of_getElem? (i := 48) rfl)) (hw _ (List.mem_of_getElem? (i := 49) rfl)) (notFace_of_selects (args := #[]) (mvT hZ (hw _ (List.mem_of_getElem? (i := 51) rfl)))) (hw _ (List.mem_of_getElem? (i := 51) rfl)) (hw _ (List.mem_of_getElem? (i := 50) rfl)) (hw _ (List.mem_of_getElem? (i := 52) rfl)) (hw _ (List.mem_of_getElem? (i := 34) rfl)) (by decide) (rmOpt l Z av0 hw [] b180 b162 k162 ((1 : Int32) + (2 : Int32)) [(.ref b108), (.ref b116), (.ref b134)] (((0 : Int32) + (1 : Int32)) + (1 : Int32)) b134 T203.heap n0 Zk203 FA203 FN203 f206 f208 ge_b180 (Ne.symm ne_b162_b180) (by decide) rfl) (by decide) (by decide) f208 (g := (mkF m 309 #[iv p0, iv p1, iv p2, iv p3, iv (((1 : Int32) + (2 : Int32))), iv (1 : Int32), iv (1 : Int32), rv b108, rv b116, rv b134, rv b162, rv b180, rv b108, rv b116, .unset] [(.ref b180)])) rfl (by rw [hml]; rfl) (argsL := []) (rest := []) (lenOf pd__Ljava_lang_String_ rfl) rfl (by show 2 * 0 + _ ≤ _; exact Nat.le_of_eq rfl) (hb hby at_309) rfl e207 (by decide : 12 + 0 ≤ _) (by decide : 29 + 0 ≤ _)
    obtain ⟨rfl, N209q, K209, FN209, FA209⟩ := hQ209
    have N209 := Fr.app N207 N209q
    have e209 : T209.heap = T209.heap := rfl
    have Zk209 : n0 ≤ T209.heap.size := Nat.le_trans Zk203 K209.1
    have Kk209 : Keep h0 T209.heap [] := Kk203.trans K209 (allS (Or.inr sz_b180) all0)
    have f211 := (((((f187.ext E180).keep K190).keep K194).keep K203).keep K209)
    obtain ⟨_, T210, Lc210, X210, hQ210, st210⟩ := own_virtual (W := 0) (y := mN9) (z := mN9) X209 hx hZ hown (hw _ (List.mem_of_getElem? (i := 53) rfl)) (hw _ (List.mem_of_getElem? (i := 54) rfl)) (notFace_of_selects (args := #[]) (mvT hZ (hw _ (List.mem_of_getElem? (i := 56) rfl)))) (hw _ (List.mem_of_getElem? (i := 56) rfl)) (hw _ (List.mem_of_getElem? (i := 55) rfl)) (hw _ (List.mem_of_getElem? (i := 57) rfl)) (hw _ (List.mem_of_getElem? (i := 3) rfl)) (by decide) (rmSame l Z av0 hw [] b134 T209.heap n0 Zk209 ) (by decide) (by decide) f211 (g := (mkF m 318 #[iv p0, iv p1, iv p2, iv p3, iv (((1 : Int32) + (2 : Int32))), iv (1 : Int32), iv (1 : Int32), rv b108, rv b116, rv b134, rv b162, rv b180, rv b108, rv b116, rv b134] [(.ref b134), (.ref b134)])) rfl (by rw [hml]; rfl) (argsL := [(.ref b134)]) (rest := []) (lenOf pd__Ljava_lang_Object_Z rfl) rfl (by show 2 * 0 + _ ≤ _; exact Nat.le_of_eq rfl) (hb hby at_318) rfl e209 (by decide : 12 + 0 ≤ _) (by decide : 29 + 0 ≤ _)
    obtain ⟨rfl, N210q, hh210⟩ := hQ210
    have N210 := Fr.app N209 N210q
    have e210 : T210.heap = T209.heap := hh210
    have f212 := (f206.keep K209 (ninS ne_b162_b180 nin0))
    have f214 := (f208.keep K209)
    obtain ⟨_, T213, Lc213, X213, hQ213, st213⟩ := own_virtual (W := 0) (y := mN6) (z := mN6) X210 hx hZ hown (hw _ (List.mem_of_getElem? (i := 41) rfl)) (hw _ (List.mem_of_getElem? (i := 42) rfl)) (notFace_of_selects (args := #[]) (mvT hZ (hw _ (List.mem_of_getElem? (i := 44) rfl)))) (hw _ (List.mem_of_getElem? (i := 44) rfl)) (hw _ (List.mem_of_getElem? (i := 43) rfl)) (hw _ (List.mem_of_getElem? (i := 45) rfl)) (hw _ (List.mem_of_getElem? (i := 34) rfl)) (by decide) (rmHas l Z av0 hw [] b180 b162 k162 ((1 : Int32) + (2 : Int32)) [(.ref b108), (.ref b116), (.ref b134)] ((((0 : Int32) + (1 : Int32)) + (1 : Int32)) + (1 : Int32)) T209.heap n0 Zk209 FA209 FN209 f212) (by decide) (by decide) f214 (g := (mkF m 328 #[iv p0, iv p1, iv p2, iv p3, iv (((1 : Int32) + (2 : Int32))), iv (1 : Int32), iv (1 : Int32), rv b108, rv b116, rv b134, rv b162, rv b180, rv b108, rv b116, rv b134] [(.ref b180)])) rfl (by rw [hml]; rfl) (argsL := []) (rest := []) (lenOf pd__Z rfl) rfl (by show 2 * 0 + _ ≤ _; exact Nat.le_of_eq rfl) (hb hby at_328) rfl e210 (by decide : 12 + 0 ≤ _) (by decide : 29 + 0 ≤ _)
    obtain ⟨rfl, N213q, hh213⟩ := hQ213
    have N213 := Fr.app N210 N213q
    have e213 : T213.heap = T209.heap := hh213
    have S215 : ∀ t, Steps p.tables e below (T213.setTop (mkF m 339 #[iv p0, iv p1, iv p2, iv p3, iv (((1 : Int32) + (2 : Int32))), iv (1 : Int32), iv (1 : Int32), rv b108, rv b116, rv b134, rv b162, rv b180, rv b108, rv b116, rv b134] [(.int (1 : Int32))])) t → Steps p.tables e below (s₁.setTop (mkF m 0 #[iv p0, iv p1, iv p2, iv p3, .unset, .unset, .unset, .unset, .unset, .unset, .unset, .unset, .unset, .unset, .unset] [])) t := fun t k => S114 t (by
      show Steps p.tables e below (T109.setTop (mkF m 54 #[iv p0, iv p1, iv p2, iv p3, iv (((1 : Int32) + (2 : Int32))), iv (1 : Int32), iv (1 : Int32), .unset, .unset, .unset, .unset, .unset, .unset, .unset, .unset] [(.ref b109), (.ref b108), (.ref b108)])) _
      refine st113 _ ?_
      refine XS.goto X113.here hx rfl (pc0 := 57) (pc' := 84) rfl (hb hby at_57) (by decide) (by decide) ?_
      show Steps p.tables e below (T113.setTop (mkF m 84 #[iv p0, iv p1, iv p2, iv p3, iv (((1 : Int32) + (2 : Int32))), iv (1 : Int32), iv (1 : Int32), .unset, .unset, .unset, .unset, .unset, .unset, .unset, .unset] [(.ref b108)])) _
      refine XS.astore X113.here hx rfl (hb hby at_84) rfl rfl (l' := #[iv p0, iv p1, iv p2, iv p3, iv (((1 : Int32) + (2 : Int32))), iv (1 : Int32), iv (1 : Int32), rv b108, .unset, .unset, .unset, .unset, .unset, .unset, .unset]) rfl ?_
      refine st116 _ ?_
      refine XS.dup X116.here hx rfl (hb hby at_89) rfl rfl ?_
      refine XT.iconstV X116.here hx rfl (2 : Int32) (hb hby at_90) (by decide) ?_
      refine st118 _ ?_
      refine XS.dup X118.here hx rfl (hb hby at_93) rfl rfl ?_
      show Steps p.tables e below (T118.setTop (mkF m 94 #[iv p0, iv p1, iv p2, iv p3, iv (((1 : Int32) + (2 : Int32))), iv (1 : Int32), iv (1 : Int32), rv b108, .unset, .unset, .unset, .unset, .unset, .unset, .unset] [(.ref b118), (.ref b118), (.ref b116), (.ref b116)])) _
      refine XT.iconstV X118.here hx rfl (0 : Int32) (hb hby at_94) (by decide) ?_
      refine XS.iloadN X118.here hx rfl (hb hby at_95) rfl ?_
      refine XT.sipushV X118.here hx rfl (255 : Int32) (hb hby at_96) (by decide) ?_
      refine XS.iand X118.here hx rfl (hb hby at_99) rfl ?_
      refine XT.i2c X118.here hx rfl (hb hby at_100) rfl ?_
      refine st123 _ ?_
      show Steps p.tables e below (T123.setTop (mkF m 102 #[iv p0, iv p1, iv p2, iv p3, iv (((1 : Int32) + (2 : Int32))), iv (1 : Int32), iv (1 : Int32), rv b108, .unset, .unset, .unset, .unset, .unset, .unset, .unset] [(.ref b118), (.ref b116), (.ref b116)])) _
      refine XS.dup X123.here hx rfl (hb hby at_102) rfl rfl ?_
      refine XT.iconstV X123.here hx rfl (1 : Int32) (hb hby at_103) (by decide) ?_
      refine XT.bipushV X123.here hx rfl (98 : Int32) (hb hby at_104) (by decide) ?_
      refine st125 _ ?_
      refine st130 _ ?_
      refine XS.astore X130.here hx rfl (hb hby at_110) rfl rfl (l' := #[iv p0, iv p1, iv p2, iv p3, iv (((1 : Int32) + (2 : Int32))), iv (1 : Int32), iv (1 : Int32), rv b108, rv b116, .unset, .unset, .unset, .unset, .unset, .unset]) rfl ?_
      show Steps p.tables e below (T130.setTop (mkF m 112 #[iv p0, iv p1, iv p2, iv p3, iv (((1 : Int32) + (2 : Int32))), iv (1 : Int32), iv (1 : Int32), rv b108, rv b116, .unset, .unset, .unset, .unset, .unset, .unset] [])) _
      refine st134 _ ?_
      refine XS.dup X134.here hx rfl (hb hby at_115) rfl rfl ?_
      refine XT.iconstV X134.here hx rfl (2 : Int32) (hb hby at_116) (by decide) ?_
      refine st140 _ ?_
      refine XS.dup X140.here hx rfl (hb hby at_119) rfl rfl ?_
      refine XT.iconstV X140.here hx rfl (0 : Int32) (hb hby at_120) (by decide) ?_
      show Steps p.tables e below (T140.setTop (mkF m 121 #[iv p0, iv p1, iv p2, iv p3, iv (((1 : Int32) + (2 : Int32))), iv (1 : Int32), iv (1 : Int32), rv b108, rv b116, .unset, .unset, .unset, .unset, .unset, .unset] [(.int (0 : Int32)), (.ref b140), (.ref b140), (.ref b134), (.ref b134)])) _
      refine XS.iloadN X140.here hx rfl (hb hby at_121) rfl ?_
      refine XT.sipushV X140.here hx rfl (255 : Int32) (hb hby at_122) (by decide) ?_
      refine XS.iand X140.here hx rfl (hb hby at_125) rfl ?_
      refine XT.i2c X140.here hx rfl (hb hby at_126) rfl ?_
      refine st148 _ ?_
      refine XS.dup X148.here hx rfl (hb hby at_128) rfl rfl ?_
      show Steps p.tables e below (T148.setTop (mkF m 129 #[iv p0, iv p1, iv p2, iv p3, iv (((1 : Int32) + (2 : Int32))), iv (1 : Int32), iv (1 : Int32), rv b108, rv b116, .unset, .unset, .unset, .unset, .unset, .unset] [(.ref b140), (.ref b140), (.ref b134), (.ref b134)])) _
      refine XT.iconstV X148.here hx rfl (1 : Int32) (hb hby at_129) (by decide) ?_
      refine XT.bipushV X148.here hx rfl (99 : Int32) (hb hby at_130) (by decide) ?_
      refine st150 _ ?_
      refine st155 _ ?_
      refine XS.astore X155.here hx rfl (hb hby at_136) rfl rfl (l' := #[iv p0, iv p1, iv p2, iv p3, iv (((1 : Int32) + (2 : Int32))), iv (1 : Int32), iv (1 : Int32), rv b108, rv b116, rv b134, .unset, .unset, .unset, .unset, .unset]) rfl ?_
      refine XS.iload X155.here hx rfl (hb hby at_138) rfl ?_
      show Steps p.tables e below (T155.setTop (mkF m 140 #[iv p0, iv p1, iv p2, iv p3, iv (((1 : Int32) + (2 : Int32))), iv (1 : Int32), iv (1 : Int32), rv b108, rv b116, rv b134, .unset, .unset, .unset, .unset, .unset] [(.int ((1 : Int32) + (2 : Int32)))])) _
      refine st162 _ ?_
      refine XS.astore X162.here hx rfl (hb hby at_143) rfl rfl (l' := #[iv p0, iv p1, iv p2, iv p3, iv (((1 : Int32) + (2 : Int32))), iv (1 : Int32), iv (1 : Int32), rv b108, rv b116, rv b134, rv b162, .unset, .unset, .unset, .unset]) rfl ?_
      refine XS.aload X162.here hx rfl (hb hby at_145) rfl rfl ?_
      refine XT.iconstV X162.here hx rfl (0 : Int32) (hb hby at_147) (by decide) ?_
      refine XS.aload X162.here hx rfl (hb hby at_148) rfl rfl ?_
      refine st173 _ ?_
      show Steps p.tables e below (T173.setTop (mkF m 151 #[iv p0, iv p1, iv p2, iv p3, iv (((1 : Int32) + (2 : Int32))), iv (1 : Int32), iv (1 : Int32), rv b108, rv b116, rv b134, rv b162, .unset, .unset, .unset, .unset] [])) _
      refine XS.iload X173.here hx rfl (hb hby at_151) rfl ?_
      refine XT.iconstV X173.here hx rfl (1 : Int32) (hb hby at_153) (by decide) ?_
      refine XS.icmpNo X173.here hx rfl (hb hby at_154) rfl (XT.ii_le_f (by decide)) ?_
      refine XS.aload X173.here hx rfl (hb hby at_157) rfl rfl ?_
      refine XT.iconstV X173.here hx rfl (1 : Int32) (hb hby at_159) (by decide) ?_
      refine XS.aload X173.here hx rfl (hb hby at_160) rfl rfl ?_
      show Steps p.tables e below (T173.setTop (mkF m 162 #[iv p0, iv p1, iv p2, iv p3, iv (((1 : Int32) + (2 : Int32))), iv (1 : Int32), iv (1 : Int32), rv b108, rv b116, rv b134, rv b162, .unset, .unset, .unset, .unset] [(.ref b116), (.int (1 : Int32)), (.ref b162)])) _
      refine st176 _ ?_
      refine XS.iload X176.here hx rfl (hb hby at_163) rfl ?_
      refine XT.iconstV X176.here hx rfl (2 : Int32) (hb hby at_165) (by decide) ?_
      refine XS.icmpNo X176.here hx rfl (hb hby at_166) rfl (XT.ii_le_f (by decide)) ?_
      refine XS.aload X176.here hx rfl (hb hby at_169) rfl rfl ?_
      refine XT.iconstV X176.here hx rfl (2 : Int32) (hb hby at_171) (by decide) ?_
      show Steps p.tables e below (T176.setTop (mkF m 172 #[iv p0, iv p1, iv p2, iv p3, iv (((1 : Int32) + (2 : Int32))), iv (1 : Int32), iv (1 : Int32), rv b108, rv b116, rv b134, rv b162, .unset, .unset, .unset, .unset] [(.int (2 : Int32)), (.ref b162)])) _
      refine XS.aload X176.here hx rfl (hb hby at_172) rfl rfl ?_
      refine st179 _ ?_
      refine st180 _ ?_
      refine XS.dup X180.here hx rfl (hb hby at_178) rfl rfl ?_
      refine XS.aload X180.here hx rfl (hb hby at_179) rfl rfl ?_
      refine st190 _ ?_
      show Steps p.tables e below (T190.setTop (mkF m 184 #[iv p0, iv p1, iv p2, iv p3, iv (((1 : Int32) + (2 : Int32))), iv (1 : Int32), iv (1 : Int32), rv b108, rv b116, rv b134, rv b162, .unset, .unset, .unset, .unset] [(.ref b180)])) _
      refine XS.astore X190.here hx rfl (hb hby at_184) rfl rfl (l' := #[iv p0, iv p1, iv p2, iv p3, iv (((1 : Int32) + (2 : Int32))), iv (1 : Int32), iv (1 : Int32), rv b108, rv b116, rv b134, rv b162, rv b180, .unset, .unset, .unset]) rfl ?_
      refine XS.aload X190.here hx rfl (hb hby at_186) rfl rfl ?_
      refine st192 _ ?_
      refine XS.ifYes X192.here hx rfl (pc0 := 191) (pc' := 196) rfl (hb hby at_191) rfl (XT.i0_ne_t (by decide)) (by decide) (by decide) ?_
      refine XS.aload X192.here hx rfl (hb hby at_196) rfl rfl ?_
      refine st194 _ ?_
      show Steps p.tables e below (T194.setTop (mkF m 201 #[iv p0, iv p1, iv p2, iv p3, iv (((1 : Int32) + (2 : Int32))), iv (1 : Int32), iv (1 : Int32), rv b108, rv b116, rv b134, rv b162, rv b180, .unset, .unset, .unset] [(.ref b108)])) _
      refine XS.astore X194.here hx rfl (hb hby at_201) rfl rfl (l' := #[iv p0, iv p1, iv p2, iv p3, iv (((1 : Int32) + (2 : Int32))), iv (1 : Int32), iv (1 : Int32), rv b108, rv b116, rv b134, rv b162, rv b180, rv b108, .unset, .unset]) rfl ?_
      refine XS.aload X194.here hx rfl (hb hby at_203) rfl rfl ?_
      refine XS.aload X194.here hx rfl (hb hby at_205) rfl rfl ?_
      refine st195 _ ?_
      refine XS.ifYes X195.here hx rfl (pc0 := 210) (pc' := 215) rfl (hb hby at_210) rfl (XT.i0_ne_t (by decide)) (by decide) (by decide) ?_
      refine XS.aload X195.here hx rfl (hb hby at_215) rfl rfl ?_
      show Steps p.tables e below (T195.setTop (mkF m 217 #[iv p0, iv p1, iv p2, iv p3, iv (((1 : Int32) + (2 : Int32))), iv (1 : Int32), iv (1 : Int32), rv b108, rv b116, rv b134, rv b162, rv b180, rv b108, .unset, .unset] [(.ref b180)])) _
      refine st198 _ ?_
      refine XS.iload X198.here hx rfl (hb hby at_220) rfl ?_
      refine XT.iconstV X198.here hx rfl (1 : Int32) (hb hby at_222) (by decide) ?_
      refine XS.icmpNo X198.here hx rfl (hb hby at_223) rfl (XT.ii_le_f (by decide)) ?_
      refine XT.iconstV X198.here hx rfl (1 : Int32) (hb hby at_226) (by decide) ?_
      refine XS.goto X198.here hx rfl (pc0 := 227) (pc' := 231) rfl (hb hby at_227) (by decide) (by decide) ?_
      show Steps p.tables e below (T198.setTop (mkF m 231 #[iv p0, iv p1, iv p2, iv p3, iv (((1 : Int32) + (2 : Int32))), iv (1 : Int32), iv (1 : Int32), rv b108, rv b116, rv b134, rv b162, rv b180, rv b108, .unset, .unset] [(.int (1 : Int32)), (.int (own_lt ((0 : Int32) + (1 : Int32)) ((1 : Int32) + (2 : Int32))))])) _
      refine XS.icmpYes X198.here hx rfl (pc0 := 231) (pc' := 236) rfl (hb hby at_231) rfl (XT.ii_eq_t (by decide)) (by decide) (by decide) ?_
      refine XS.iload X198.here hx rfl (hb hby at_236) rfl ?_
      refine XT.iconstV X198.here hx rfl (1 : Int32) (hb hby at_238) (by decide) ?_
      refine XS.icmpYes X198.here hx rfl (pc0 := 239) (pc' := 244) rfl (hb hby at_239) rfl (XT.ii_ne_t (by decide)) (by decide) (by decide) ?_
      refine XS.iload X198.here hx rfl (hb hby at_244) rfl ?_
      refine XS.ifNo X198.here hx rfl (hb hby at_246) rfl (XT.i0_eq_f (by decide)) ?_
      show Steps p.tables e below (T198.setTop (mkF m 249 #[iv p0, iv p1, iv p2, iv p3, iv (((1 : Int32) + (2 : Int32))), iv (1 : Int32), iv (1 : Int32), rv b108, rv b116, rv b134, rv b162, rv b180, rv b108, .unset, .unset] [])) _
      refine XS.aload X198.here hx rfl (hb hby at_249) rfl rfl ?_
      refine XS.aload X198.here hx rfl (hb hby at_251) rfl rfl ?_
      refine st203 _ ?_
      refine XS.goto X203.here hx rfl (pc0 := 256) (pc' := 264) rfl (hb hby at_256) (by decide) (by decide) ?_
      refine XS.astore X203.here hx rfl (hb hby at_264) rfl rfl (l' := #[iv p0, iv p1, iv p2, iv p3, iv (((1 : Int32) + (2 : Int32))), iv (1 : Int32), iv (1 : Int32), rv b108, rv b116, rv b134, rv b162, rv b180, rv b108, rv b116, .unset]) rfl ?_
      refine XS.aload X203.here hx rfl (hb hby at_266) rfl rfl ?_
      show Steps p.tables e below (T203.setTop (mkF m 268 #[iv p0, iv p1, iv p2, iv p3, iv (((1 : Int32) + (2 : Int32))), iv (1 : Int32), iv (1 : Int32), rv b108, rv b116, rv b134, rv b162, rv b180, rv b108, rv b116, .unset] [(.ref b116)])) _
      refine XS.aload X203.here hx rfl (hb hby at_268) rfl rfl ?_
      refine st204 _ ?_
      refine XS.ifYes X204.here hx rfl (pc0 := 273) (pc' := 278) rfl (hb hby at_273) rfl (XT.i0_ne_t (by decide)) (by decide) (by decide) ?_
      refine XS.aload X204.here hx rfl (hb hby at_278) rfl rfl ?_
      refine st207 _ ?_
      refine XS.iload X207.here hx rfl (hb hby at_283) rfl ?_
      show Steps p.tables e below (T207.setTop (mkF m 285 #[iv p0, iv p1, iv p2, iv p3, iv (((1 : Int32) + (2 : Int32))), iv (1 : Int32), iv (1 : Int32), rv b108, rv b116, rv b134, rv b162, rv b180, rv b108, rv b116, .unset] [(.int ((1 : Int32) + (2 : Int32))), (.int (own_lt (((0 : Int32) + (1 : Int32)) + (1 : Int32)) ((1 : Int32) + (2 : Int32))))])) _
      refine XT.iconstV X207.here hx rfl (2 : Int32) (hb hby at_285) (by decide) ?_
      refine XS.icmpNo X207.here hx rfl (hb hby at_286) rfl (XT.ii_le_f (by decide)) ?_
      refine XT.iconstV X207.here hx rfl (1 : Int32) (hb hby at_289) (by decide) ?_
      refine XS.goto X207.here hx rfl (pc0 := 290) (pc' := 294) rfl (hb hby at_290) (by decide) (by decide) ?_
      refine XS.icmpYes X207.here hx rfl (pc0 := 294) (pc' := 299) rfl (hb hby at_294) rfl (XT.ii_eq_t (by decide)) (by decide) (by decide) ?_
      refine XS.iload X207.here hx rfl (hb hby at_299) rfl ?_
      show Steps p.tables e below (T207.setTop (mkF m 301 #[iv p0, iv p1, iv p2, iv p3, iv (((1 : Int32) + (2 : Int32))), iv (1 : Int32), iv (1 : Int32), rv b108, rv b116, rv b134, rv b162, rv b180, rv b108, rv b116, .unset] [(.int ((1 : Int32) + (2 : Int32)))])) _
      refine XT.iconstV X207.here hx rfl (2 : Int32) (hb hby at_301) (by decide) ?_
      refine XS.icmpYes X207.here hx rfl (pc0 := 302) (pc' := 307) rfl (hb hby at_302) rfl (XT.ii_ne_t (by decide)) (by decide) (by decide) ?_
      refine XS.aload X207.here hx rfl (hb hby at_307) rfl rfl ?_
      refine st209 _ ?_
      refine XS.astore X209.here hx rfl (hb hby at_312) rfl rfl (l' := #[iv p0, iv p1, iv p2, iv p3, iv (((1 : Int32) + (2 : Int32))), iv (1 : Int32), iv (1 : Int32), rv b108, rv b116, rv b134, rv b162, rv b180, rv b108, rv b116, rv b134]) rfl ?_
      refine XS.aload X209.here hx rfl (hb hby at_314) rfl rfl ?_
      show Steps p.tables e below (T209.setTop (mkF m 316 #[iv p0, iv p1, iv p2, iv p3, iv (((1 : Int32) + (2 : Int32))), iv (1 : Int32), iv (1 : Int32), rv b108, rv b116, rv b134, rv b162, rv b180, rv b108, rv b116, rv b134] [(.ref b134)])) _
      refine XS.aload X209.here hx rfl (hb hby at_316) rfl rfl ?_
      refine st210 _ ?_
      refine XS.ifYes X210.here hx rfl (pc0 := 321) (pc' := 326) rfl (hb hby at_321) rfl (XT.i0_ne_t (by decide)) (by decide) (by decide) ?_
      refine XS.aload X210.here hx rfl (hb hby at_326) rfl rfl ?_
      refine st213 _ ?_
      refine XS.ifNo X213.here hx rfl (hb hby at_331) rfl (XT.i0_ne_f (by decide)) ?_
      show Steps p.tables e below (T213.setTop (mkF m 334 #[iv p0, iv p1, iv p2, iv p3, iv (((1 : Int32) + (2 : Int32))), iv (1 : Int32), iv (1 : Int32), rv b108, rv b116, rv b134, rv b162, rv b180, rv b108, rv b116, rv b134] [])) _
      refine XT.iconstV X213.here hx rfl (1 : Int32) (hb hby at_334) (by decide) ?_
      refine XS.goto X213.here hx rfl (pc0 := 335) (pc' := 339) rfl (hb hby at_335) (by decide) (by decide) ?_
      exact k)
    obtain ⟨fs, hr, hrun, hended, hEnd⟩ := X213.leaveW hS113 (by rw [e213]; exact (Nat.le_trans (Nat.le_trans (Nat.le_trans (Nat.le_trans (Nat.le_trans (Nat.le_trans (Nat.le_trans (Nat.le_trans (Nat.le_trans (Nat.le_trans (Nat.le_trans (Nat.le_trans (Nat.le_trans (Nat.le_trans (Nat.le_trans (Nat.le_trans (Nat.le_trans (Nat.le_trans (Nat.le_trans (Nat.le_refl _) E116.1) E118.1) (Nat.le_of_eq W123.size.symm)) (Nat.le_of_eq W125.size.symm)) K130.1) E134.1) E140.1) (Nat.le_of_eq W148.size.symm)) (Nat.le_of_eq W150.size.symm)) K155.1) E162.1) (Nat.le_of_eq W173.size.symm)) (Nat.le_of_eq W176.size.symm)) (Nat.le_of_eq W179.size.symm)) E180.1) K190.1) K194.1) K203.1) K209.1)) (v := some (.int (1 : Int32))) (fun h => by rw [Bd.returns] at h; cases h)
    refine ⟨_, _, pre0 _ (S215 _ ?_), hrun, hended, _, _, rfl, ?_, hEnd.1, hEnd.2.1, hEnd.2.2.1, hEnd.2.2.2.mono (by decide) (by decide)⟩
    · exact retN X213 hx (t := .boolean) Bd.returns (by simp) (hb hby at_339) hr
    · show Qrm0 Z p0 p1 p2 p3 wC h0 n0 _ T213.heap _
      rw [e213]
      exact ⟨rfl, N213⟩
theorem own_and1 (x : Int32) : x &&& 1 = 0 ∨ x &&& 1 = 1 := by
  have h := c_mask x 1 1 (by decide) (by decide)
  simp only [← Int32.toInt_inj, h, show (0 : Int32).toInt = 0 from rfl, show (1 : Int32).toInt = 1 from rfl]
  omega
theorem rm0 (l : Launch) (Z : State) (av0 : Array Value) (hw : ∀ d ∈ tables_1, d.before av0 Z = true) (ws : List Jvm.Cond) (p0 p1 p2 p3 : Int32) (wC : Int32) (h0 : Heap) (n0 : Nat) (Z0 : n0 ≤ h0.size) (hS : Sta Z h0 "java/lang/String" "COMPACT_STRINGS" "Z" (.int wC)) (hw0 : ¬ wC = (0 : Int32)) (hkp : ∀ (b : Addr) (cl : Cell), Z.heap[b]? = some cl → h0[b]? = some cl) (hcH : Jvm.Lit.constHeld Z "java/lang/String" 7) (hcw : Jvm.Lit.compactW.before av0 Z = true) :
    MetFree l x (head1 (Jvm.Cond.code x code maxLocals ret :: ws) room_1) (fun a U => a = #[(.int p0), (.int p1), (.int p2), (.int p3)] ∧ Z.Warmed39 U.vm ∧ U.heap = h0 ∧ IB Z U.vm []) (fun _ _ _ _ _ => True) (fun _ U o U' => ∃ v L, o = .returned v ∧ Qrm0 Z p0 p1 p2 p3 wC h0 n0 v U'.heap L ∧ ReturnedEndW U o U' L room_1.cells room_1.slots) := by
  rcases own_P3 p3 with h | h | h <;> rcases own_and1 (XT.ushr p3 (9 : Int32)) with h' | h'
  · exact rm0_1_0 l Z av0 hw ws p0 p1 p2 p3 wC h0 n0 Z0 hS hw0 hkp hcH hcw h h'
  · exact rm0_1_1 l Z av0 hw ws p0 p1 p2 p3 wC h0 n0 Z0 hS hw0 hkp hcH hcw h h'
  · exact rm0_2_0 l Z av0 hw ws p0 p1 p2 p3 wC h0 n0 Z0 hS hw0 hkp hcH hcw h h'
  · exact rm0_2_1 l Z av0 hw ws p0 p1 p2 p3 wC h0 n0 Z0 hS hw0 hkp hcH hcw h h'
  · exact rm0_3_0 l Z av0 hw ws p0 p1 p2 p3 wC h0 n0 Z0 hS hw0 hkp hcH hcw h h'
  · exact rm0_3_1 l Z av0 hw ws p0 p1 p2 p3 wC h0 n0 Z0 hS hw0 hkp hcH hcw h h'
set_option maxRecDepth 65536 in
set_option maxHeartbeats 40000000 in
theorem comes_1 {Post : Tables → Env → Array Value → State → Outcome → State → Prop} (hpost : ∀ tb e args s v u, (limb_1_1.after args s (.returned v) u = true ∧ limb_1_2.after args s (.returned v) u = true ∧ True) → Jvm.ReturnedEndW s (.returned v) u (Jvm.fieldLocs frame_1_writes args s ++ Jvm.arrayLocs frame_1_arrays args s ++ Jvm.staticLocs frame_1_statics s) 32 1152 → Post tb e args s (.returned v) u) :
    ArmFor flags0 classFile x code maxLocals ret World_1 tables_1 room_1 Calls_1 rest_1 Pre_1 Post := by
  intro l hfl _ _ p e ha hc hk s m args below hf hA hF happ hP
  obtain ⟨hcalls, hrest, hpre⟩ := hP
  obtain ⟨-, -, -, hnamed, -, -, -, hat⟩ := (Spec.applies_iff hf).mp happ
  obtain ⟨hg, hn⟩ := and_e (Cond.before_iff.mp (show (Jvm.Cond.and given_1 narrow_1).before args s = true from hpre))
  obtain ⟨g0, r0⟩ := and_e hg
  obtain ⟨g1, r1⟩ := and_e r0
  obtain ⟨g2, r2⟩ := and_e r1
  obtain ⟨g3, r3⟩ := and_e r2
  obtain ⟨w0, w1, w2, w3, rfl⟩ : ∃ w0 w1 w2 w3 : Value, args = #[w0, w1, w2, w3] := by
    have hs : args.size = 4 := by simpa [Cond.value, given_1] using g0
    obtain ⟨L⟩ := args
    match L, hs with
    | [w0, w1, w2, w3], _ => exact ⟨w0, w1, w2, w3, rfl⟩
  have hw := fun d (hd : d ∈ tables_1) => atoms_spec (ws := Jvm.Cond.code x code maxLocals ret :: tables_1) hat d (List.mem_cons_of_mem _ hd)
  have hfit : Fit s := fun {y c} hc i hi => by
    obtain ⟨ha, rfl⟩ := Array.getElem?_eq_some_iff.mp hc
    have q := List.all_eq_true.mp ((Array.all_eq_true_iff_forall_mem.mp hF) _ (Array.getElem_mem ha)) i (List.mem_range.mpr hi)
    simpa [Array.getElem?_eq_getElem hi] using q
  obtain ⟨i0, ei0⟩ := is_v g1
  obtain rfl : w0 = (.int i0) := Option.some.inj ei0
  obtain ⟨i1, ei1⟩ := is_v g2
  obtain rfl : w1 = (.int i1) := Option.some.inj ei1
  obtain ⟨i2, ei2⟩ := is_v g3
  obtain rfl : w2 = (.int i2) := Option.some.inj ei2
  obtain ⟨i3, ei3⟩ := is_v r3
  obtain rfl : w3 = (.int i3) := Option.some.inj ei3
  have hr0 := Cond.before_iff.mp (show rest_1_c.before _ s = true from hrest)
  obtain ⟨u0, hr1⟩ := and_e hr0
  obtain ⟨u1, hr2⟩ := and_e hr1
  obtain ⟨u2, hr3⟩ := and_e hr2
  obtain ⟨u3, hr4⟩ := and_e hr3
  obtain ⟨u4, hr5⟩ := and_e hr4
  obtain ⟨u5, hr6⟩ := and_e hr5
  obtain ⟨u6, hr7⟩ := and_e hr6
  obtain ⟨u7, hr8⟩ := and_e hr7
  obtain ⟨u8, hr9⟩ := and_e hr8
  obtain ⟨wC, evC⟩ := is_v u1
  have hSC := Sta.start evC (Or.inl (Cond.before_iff.mpr u0))
  have hwC : ¬ wC = (0 : Int32) := gotF (Cond.eq_ints evC (Term.int_eval 0)) (not_v u2)
  have hcH : Jvm.Lit.constHeld s "java/lang/String" 7 := (show ∀ p ∈ consts_1, Jvm.Lit.constHeld s p.1 p.2 from hcalls.1) _ (List.mem_of_getElem? (i := 0) rfl)
  have hcw : Jvm.Lit.compactW.before _ s = true := Cond.before_iff.mpr u2
  obtain ⟨n, o, h1, h2, h3, _, L, rfl, ⟨rfl, N⟩, hq⟩ := rm0 l s _ hw tables_1 i0 i1 i2 i3 wC s.heap s.heap.size (Nat.le_refl _) hSC hwC (fun _ _ q => q) hcH hcw p e ha hc hk s m _ below hf ((Spec.applies_iff_loose hf).mp happ).1 ⟨rfl, State.Warmed39.refl s, rfl, IB.start⟩ trivial
  refine ⟨n, _, h1, h2, h3, hpost _ _ _ _ _ _ ⟨Cond.after_iff.mpr rfl, Cond.after_iff.mpr (eq_i res_at (Term.int_eval (1)) rfl), trivial⟩ ⟨hq.1, hq.2.1, hq.2.2.1, (hq.2.2.2.sift fun y hy => Or.inr (N y hy)).mono (by decide) (by decide)⟩⟩
theorem main_1_1 : Claimed_1_1 := comes_1 fun _ _ _ _ _ _ h hF => ⟨h.1, hF⟩
theorem main_1_2 : Claimed_1_2 := comes_1 fun _ _ _ _ _ _ h hF => ⟨h.2.1, hF⟩
end Jvm.Pilot.@@N@@
namespace Jvm.Pilot.@@N@@
open Jvm Jvm.ClassFile Sem Op Lib Jvm.Free Jvm.Stand Jvm.Pilot.@@N@@.Jvm.D
/-! MADE BY PROGRAM (witnessworld.py) out of the Statement's table words and the real class files: 21 classes; the members and pool entries that the words name. The judged class is class 1, her method 1. -/
namespace start1
open Jvm.ClassFile
def u (s : String) : CpInfo := .utf8 (stringToUtf16 s)
/-- a pool by its gaps: so many unusable entries, then the entry; so many at the end -/
def gap : Nat → List CpInfo → List CpInfo
  | 0, r => r
  | n + 1, r => .unusable :: gap n r
def poolList (es : List (Nat × CpInfo)) (last : Nat) : List CpInfo := es.foldr (fun e r => gap e.1 (e.2 :: r)) (gap last [])
def pool (es : List (Nat × CpInfo)) (last : Nat) : Array CpInfo := ⟨poolList es last⟩
def fileOf (pool : Array CpInfo) (this : Nat) (attrs : Array Attribute := #[]) (ms : Array MethodInfo := #[]) (fl : Nat := 33) (sup : Nat := 0) (ifs : Array Nat := #[]) (fds : Array FieldInfo := #[]) : ClassFile where
  minorVersion := 0
  majorVersion := 65
  constantPool := pool
  accessFlags := fl
  thisClass := this
  superClass := sup
  interfaces := ifs
  fields := fds
  methods := ms
  attributes := attrs
def plain (name : String) (sup : Option ClassId) : Class where
  name := name
  kind := .ordinary
  loader := none
  accessFlags := 33
  super := sup
  interfaces := #[]
  cf := none
  fields := #[]
  methods := #[]
  instanceTypes := #[]
  staticTypes := #[]
  resolved := #[]
  callSites := []
  init := .initialized
  statics := none
  mirror := none

def pool0 : Array CpInfo := pool [(5, u "<init>"), (0, u "()V"), (1, .class_ 10), (1, u "java/lang/Object")] 113

def k0c0 : Code := { maxStack := 0, maxLocals := 1, code := object_method_1_code, exceptionTable := #[], attributes := #[] }
def k0m0 : Method := { name := "<init>", desc := "()V", sig := { parameters := [], returnType := none }, accessFlags := 1, code := some k0c0 }
/-- java/lang/Object -/
def k0 : Class := { plain "java/lang/Object" none with
  accessFlags := 33
  interfaces := #[]
  cf := some (fileOf pool0 8 #[] #[{ accessFlags := 1, nameIndex := 5, descriptorIndex := 6, attributes := #[] }] 33 0 #[] #[])
  fields := #[]
  methods := #[k0m0]
  instanceTypes := #[]
  staticTypes := #[]
  resolved := Array.replicate 124 none
  statics := none }

def pool1 : Array CpInfo := pool [(2, .class_ 4), (1, u "java/lang/Object"), (0, u "<init>"), (0, u "()V"), (0, .integer 2147483647), (0, .class_ 9), (0, u "java/lang/String"), (0, .methodref 8 11), (0, .nameAndType 5 12), (0, u "([C)V"), (0, .class_ 14), (0, u "com/example/steady_courier/steadycourier/OptionReader"), (0, .methodref 13 16), (0, .nameAndType 5 17), (0, u "([Ljava/lang/String;)V"), (0, .methodref 13 19), (0, .nameAndType 20 21), (0, u "hasNext"), (0, u "()Z"), (0, .methodref 13 23), (0, .nameAndType 24 25), (0, u "option"), (0, u "()Ljava/lang/String;"), (0, .methodref 8 27), (0, .nameAndType 28 29), (0, u "equals"), (0, u "(Ljava/lang/Object;)Z"), (0, .methodref 13 31), (0, .nameAndType 32 33), (0, u "value"), (0, u "(Ljava/lang/String;)Ljava/lang/String;"), (0, .class_ 35), (0, u "com/example/steady_courier/steadycourier/OptionReaderOptionPinLaw"), (2, u "law"), (0, u "(IIII)Z")] 8

def k1m0 : Method := { name := "<init>", desc := "()V", sig := { parameters := [], returnType := none }, accessFlags := 1, code := none }
def k1c1 : Code := { maxStack := 7, maxLocals := 15, code := code, exceptionTable := #[], attributes := #[] }
def k1m1 : Method := { name := "law", desc := "(IIII)Z", sig := { parameters := [.int, .int, .int, .int], returnType := some .boolean }, accessFlags := 9, code := some k1c1 }
/-- com/example/steady_courier/steadycourier/OptionReaderOptionPinLaw -/
def k1 : Class := { plain "com/example/steady_courier/steadycourier/OptionReaderOptionPinLaw" (some 0) with
  accessFlags := 49
  interfaces := #[]
  cf := some (fileOf pool1 34 #[] #[{ accessFlags := 1, nameIndex := 5, descriptorIndex := 6, attributes := #[] }, { accessFlags := 9, nameIndex := 38, descriptorIndex := 39, attributes := #[] }] 49 2 #[] #[])
  fields := #[]
  methods := #[k1m0, k1m1]
  instanceTypes := #[]
  staticTypes := #[]
  resolved := Array.replicate 48 none
  statics := none }

def pool2 : Array CpInfo := pool [(1, .class_ 2), (0, u "java/io/Serializable"), (0, .class_ 4), (0, u "java/lang/Object")] 2

/-- java/io/Serializable -/
def k2 : Class := { plain "java/io/Serializable" (some 0) with
  accessFlags := 1537
  interfaces := #[]
  cf := some (fileOf pool2 1 #[] #[] 1537 3 #[] #[])
  fields := #[]
  methods := #[]
  instanceTypes := #[]
  staticTypes := #[]
  resolved := Array.replicate 7 none
  statics := none }

def pool3 : Array CpInfo := pool [(1, .class_ 2), (0, u "java/lang/Comparable"), (0, .class_ 4), (0, u "java/lang/Object")] 7

/-- java/lang/Comparable -/
def k3 : Class := { plain "java/lang/Comparable" (some 0) with
  accessFlags := 1537
  interfaces := #[]
  cf := some (fileOf pool3 1 #[] #[] 1537 3 #[] #[])
  fields := #[]
  methods := #[]
  instanceTypes := #[]
  staticTypes := #[]
  resolved := Array.replicate 12 none
  statics := none }

def pool4 : Array CpInfo := pool [(2, .class_ 4), (1, u "java/lang/CharSequence"), (42, .class_ 48), (0, u "java/lang/CharSequence$1CodePointIterator"), (10, .class_ 60), (0, u "java/lang/CharSequence$1CharIterator"), (5, .class_ 67), (0, u "java/lang/Object")] 63

/-- java/lang/CharSequence -/
def k4 : Class := { plain "java/lang/CharSequence" (some 0) with
  accessFlags := 1537
  interfaces := #[]
  cf := some (fileOf pool4 2 #[.nestMembers #[47, 59]] #[] 1537 66 #[] #[])
  fields := #[]
  methods := #[]
  instanceTypes := #[]
  staticTypes := #[]
  resolved := Array.replicate 131 none
  statics := none }

def pool5 : Array CpInfo := pool [(1, .class_ 2), (0, u "java/lang/constant/Constable"), (0, .class_ 4), (0, u "java/lang/Object")] 6

/-- java/lang/constant/Constable -/
def k5 : Class := { plain "java/lang/constant/Constable" (some 0) with
  accessFlags := 1537
  interfaces := #[]
  cf := some (fileOf pool5 1 #[] #[] 1537 3 #[] #[])
  fields := #[]
  methods := #[]
  instanceTypes := #[]
  staticTypes := #[]
  resolved := Array.replicate 11 none
  statics := none }

def pool6 : Array CpInfo := pool [(1, .class_ 2), (0, u "java/lang/constant/ConstantDesc"), (0, .class_ 4), (0, u "java/lang/Object")] 32

/-- java/lang/constant/ConstantDesc -/
def k6 : Class := { plain "java/lang/constant/ConstantDesc" (some 0) with
  accessFlags := 1537
  interfaces := #[]
  cf := some (fileOf pool6 1 #[] #[] 1537 3 #[] #[])
  fields := #[]
  methods := #[]
  instanceTypes := #[]
  staticTypes := #[]
  resolved := Array.replicate 37 none
  statics := none }

def pool7 : Array CpInfo := pool [(1, .methodref 2 3), (0, .class_ 4), (0, .nameAndType 5 6), (0, u "java/lang/Object"), (0, u "<init>"), (0, u "()V"), (0, .string 8), (0, u ""), (0, .fieldref 10 11), (0, .class_ 12), (0, .nameAndType 13 14), (0, u "java/lang/String"), (0, u "value"), (0, u "[B"), (0, .fieldref 10 16), (0, .nameAndType 17 18), (0, u "coder"), (0, u "B"), (2, u "hash"), (0, u "I"), (2, u "hashIsZero"), (0, u "Z"), (0, .methodref 10 28), (0, .nameAndType 5 29), (0, u "([CIILjava/lang/Void;)V"), (8, .fieldref 10 39), (0, .nameAndType 40 26), (0, u "COMPACT_STRINGS"), (1, .class_ 44), (1, u "java/lang/StringUTF16"), (0, u "compress"), (1, .methodref 42 48), (0, .nameAndType 49 50), (0, u "coderFromArrayLen"), (0, u "([BI)B"), (91, u "()Z"), (34, .methodref 42 178), (0, .nameAndType 45 179), (0, u "([CII)[B"), (363, u "equals"), (29, u "(Ljava/lang/Object;)Z"), (1, .class_ 576), (0, u "java/lang/CharSequence"), (22, u "CASE_INSENSITIVE_ORDER"), (0, u "Ljava/util/Comparator;"), (91, u "isEmpty"), (317, u "([C)V"), (90, u "serialPersistentFields"), (0, u "[Ljava/io/ObjectStreamField;"), (0, .class_ 1104), (0, u "java/lang/String$CaseInsensitiveComparator"), (1, .class_ 1107), (0, u "java/io/Serializable"), (0, .class_ 1109), (0, u "java/lang/Comparable"), (0, .class_ 1111), (0, u "java/lang/constant/Constable"), (0, .class_ 1113), (0, u "java/lang/constant/ConstantDesc"), (2, u "serialVersionUID"), (0, u "J"), (3, u "REPL"), (0, u "C"), (2, u "LATIN1"), (1, u "UTF16")] 323

def k7m0 : Method := { name := "<init>", desc := "()V", sig := { parameters := [], returnType := none }, accessFlags := 1, code := none }
def k7c1 : Code := { maxStack := 5, maxLocals := 2, code := jdk_42_method_3_code, exceptionTable := #[], attributes := #[] }
def k7m1 : Method := { name := "<init>", desc := "([C)V", sig := { parameters := [(.array .char)], returnType := none }, accessFlags := 1, code := some k7c1 }
def k7c2 : Code := { maxStack := 1, maxLocals := 1, code := jdk_42_method_55_code, exceptionTable := #[], attributes := #[] }
def k7m2 : Method := { name := "isEmpty", desc := "()Z", sig := { parameters := [], returnType := some .boolean }, accessFlags := 1, code := some k7c2 }
def k7c3 : Code := { maxStack := 2, maxLocals := 3, code := jdk_42_method_66_code, exceptionTable := #[], attributes := #[] }
def k7m3 : Method := { name := "equals", desc := "(Ljava/lang/Object;)Z", sig := { parameters := [(.object "java/lang/Object")], returnType := some .boolean }, accessFlags := 1, code := some k7c3 }
def k7c4 : Code := { maxStack := 4, maxLocals := 6, code := jdk_42_method_149_code, exceptionTable := #[], attributes := #[] }
def k7m4 : Method := { name := "<init>", desc := "([CIILjava/lang/Void;)V", sig := { parameters := [(.array .char), .int, .int, (.object "java/lang/Void")], returnType := none }, accessFlags := 2, code := some k7c4 }
/-- java/lang/String -/
def k7 : Class := { plain "java/lang/String" (some 0) with
  accessFlags := 49
  interfaces := #[2, 3, 4, 5, 6]
  cf := some (fileOf pool7 10 #[.nestMembers #[1103]] #[{ accessFlags := 1, nameIndex := 5, descriptorIndex := 6, attributes := #[] }, { accessFlags := 1, nameIndex := 5, descriptorIndex := 1010, attributes := #[] }, { accessFlags := 1, nameIndex := 692, descriptorIndex := 142, attributes := #[] }, { accessFlags := 1, nameIndex := 543, descriptorIndex := 573, attributes := #[] }, { accessFlags := 2, nameIndex := 5, descriptorIndex := 29, attributes := #[] }] 49 2 #[1106, 1108, 575, 1110, 1112] #[{ accessFlags := 18, nameIndex := 13, descriptorIndex := 14, attributes := #[] }, { accessFlags := 18, nameIndex := 17, descriptorIndex := 18, attributes := #[] }, { accessFlags := 2, nameIndex := 21, descriptorIndex := 22, attributes := #[] }, { accessFlags := 2, nameIndex := 25, descriptorIndex := 26, attributes := #[] }, { accessFlags := 26, nameIndex := 1116, descriptorIndex := 1117, attributes := #[] }, { accessFlags := 24, nameIndex := 40, descriptorIndex := 26, attributes := #[] }, { accessFlags := 26, nameIndex := 1101, descriptorIndex := 1102, attributes := #[] }, { accessFlags := 26, nameIndex := 1121, descriptorIndex := 1122, attributes := #[] }, { accessFlags := 25, nameIndex := 599, descriptorIndex := 600, attributes := #[] }, { accessFlags := 24, nameIndex := 1125, descriptorIndex := 18, attributes := #[] }, { accessFlags := 24, nameIndex := 1127, descriptorIndex := 18, attributes := #[] }])
  fields := #[{ name := "value", type := (.array .byte), accessFlags := 18, slot := 0, constantValue := 0 }, { name := "coder", type := .byte, accessFlags := 18, slot := 1, constantValue := 0 }, { name := "hash", type := .int, accessFlags := 2, slot := 2, constantValue := 0 }, { name := "hashIsZero", type := .boolean, accessFlags := 2, slot := 3, constantValue := 0 }, { name := "serialVersionUID", type := .long, accessFlags := 26, slot := 0, constantValue := 0 }, { name := "COMPACT_STRINGS", type := .boolean, accessFlags := 24, slot := 1, constantValue := 0 }, { name := "serialPersistentFields", type := (.array (.object "java/io/ObjectStreamField")), accessFlags := 26, slot := 2, constantValue := 0 }, { name := "REPL", type := .char, accessFlags := 26, slot := 3, constantValue := 0 }, { name := "CASE_INSENSITIVE_ORDER", type := (.object "java/util/Comparator"), accessFlags := 25, slot := 4, constantValue := 0 }, { name := "LATIN1", type := .byte, accessFlags := 24, slot := 5, constantValue := 0 }, { name := "UTF16", type := .byte, accessFlags := 24, slot := 6, constantValue := 0 }]
  methods := #[k7m0, k7m1, k7m2, k7m3, k7m4]
  instanceTypes := #[(.array .byte), .byte, .int, .boolean]
  staticTypes := #[.long, .boolean, (.array (.object "java/io/ObjectStreamField")), .char, (.object "java/util/Comparator"), .byte, .byte]
  resolved := Array.replicate 1451 none
  statics := some 0 }

def pool8 : Array CpInfo := pool [(6, .class_ 8), (1, u "java/lang/Object"), (0, u "<init>"), (0, u "()V"), (1, .class_ 14), (1, u "java/lang/StringUTF16"), (31, u "$assertionsDisabled"), (0, u "Z"), (13, u "HI_BYTE_SHIFT"), (0, u "I"), (2, u "LO_BYTE_SHIFT"), (49, .methodref 12 116), (0, .nameAndType 117 118), (0, u "compress"), (0, u "([CI[BII)I"), (3, u "([CII)[B"), (138, u "coderFromArrayLen"), (0, u "([BI)B"), (106, .class_ 371), (1, u "java/lang/StringUTF16$LinesSpliterator"), (58, u "MAX_LENGTH"), (196, .class_ 628), (0, u "java/lang/StringUTF16$CodePointsSpliterator"), (0, .class_ 630), (0, u "java/lang/StringUTF16$CharsSpliterator")] 4

def k8m0 : Method := { name := "<init>", desc := "()V", sig := { parameters := [], returnType := none }, accessFlags := 0, code := none }
def k8c1 : Code := { maxStack := 2, maxLocals := 2, code := jdk_52_method_15_code, exceptionTable := #[], attributes := #[] }
def k8m1 : Method := { name := "coderFromArrayLen", desc := "([BI)B", sig := { parameters := [(.array .byte), .int], returnType := some .byte }, accessFlags := 8, code := some k8c1 }
def k8c2 : Code := { maxStack := 5, maxLocals := 6, code := jdk_52_method_16_code, exceptionTable := #[], attributes := #[] }
def k8m2 : Method := { name := "compress", desc := "([CII)[B", sig := { parameters := [(.array .char), .int, .int], returnType := some (.array .byte) }, accessFlags := 9, code := some k8c2 }
def k8c3 : Code := { maxStack := 3, maxLocals := 7, code := jdk_52_method_21_code, exceptionTable := #[], attributes := #[] }
def k8m3 : Method := { name := "compress", desc := "([CI[BII)I", sig := { parameters := [(.array .char), .int, (.array .byte), .int, .int], returnType := some .int }, accessFlags := 9, code := some k8c3 }
/-- java/lang/StringUTF16 -/
def k8 : Class := { plain "java/lang/StringUTF16" (some 0) with
  accessFlags := 48
  interfaces := #[]
  cf := some (fileOf pool8 12 #[.nestMembers #[627, 629, 369]] #[{ accessFlags := 0, nameIndex := 9, descriptorIndex := 10, attributes := #[] }, { accessFlags := 8, nameIndex := 261, descriptorIndex := 262, attributes := #[] }, { accessFlags := 9, nameIndex := 117, descriptorIndex := 122, attributes := #[] }, { accessFlags := 9, nameIndex := 117, descriptorIndex := 118, attributes := #[] }] 48 6 #[] #[{ accessFlags := 26, nameIndex := 61, descriptorIndex := 62, attributes := #[] }, { accessFlags := 26, nameIndex := 65, descriptorIndex := 62, attributes := #[] }, { accessFlags := 24, nameIndex := 430, descriptorIndex := 62, attributes := #[] }, { accessFlags := 4120, nameIndex := 46, descriptorIndex := 47, attributes := #[] }])
  fields := #[{ name := "HI_BYTE_SHIFT", type := .int, accessFlags := 26, slot := 0, constantValue := 0 }, { name := "LO_BYTE_SHIFT", type := .int, accessFlags := 26, slot := 1, constantValue := 0 }, { name := "MAX_LENGTH", type := .int, accessFlags := 24, slot := 2, constantValue := 0 }, { name := "$assertionsDisabled", type := .boolean, accessFlags := 4120, slot := 3, constantValue := 0 }]
  methods := #[k8m0, k8m1, k8m2, k8m3]
  instanceTypes := #[]
  staticTypes := #[.int, .int, .int, .boolean]
  resolved := Array.replicate 635 none
  statics := none }

def pool9 : Array CpInfo := pool [(1, .methodref 2 3), (0, .class_ 4), (0, .nameAndType 5 6), (0, u "java/lang/Object"), (0, u "<init>"), (0, u "()V"), (0, .fieldref 8 9), (0, .class_ 10), (0, .nameAndType 11 12), (0, u "com/example/steady_courier/steadycourier/OptionReader"), (0, u "arguments"), (0, u "[Ljava/lang/String;"), (0, .fieldref 8 14), (0, .nameAndType 15 16), (0, u "next"), (0, u "I"), (5, u "(Ljava/lang/String;)Ljava/lang/String;"), (3, .methodref 27 28), (0, .class_ 29), (0, .nameAndType 30 31), (0, u "java/lang/String"), (0, u "isEmpty"), (0, u "()Z"), (12, u "([Ljava/lang/String;)V"), (2, u "hasNext"), (1, u "option"), (0, u "()Ljava/lang/String;"), (0, u "value")] 24

def k9c0 : Code := { maxStack := 2, maxLocals := 2, code := prog_2_method_1_code, exceptionTable := #[], attributes := #[] }
def k9m0 : Method := { name := "<init>", desc := "([Ljava/lang/String;)V", sig := { parameters := [(.array (.object "java/lang/String"))], returnType := none }, accessFlags := 0, code := some k9c0 }
def k9c1 : Code := { maxStack := 2, maxLocals := 1, code := prog_2_method_2_code, exceptionTable := #[], attributes := #[] }
def k9m1 : Method := { name := "hasNext", desc := "()Z", sig := { parameters := [], returnType := some .boolean }, accessFlags := 0, code := some k9c1 }
def k9c2 : Code := { maxStack := 5, maxLocals := 1, code := prog_2_method_3_code, exceptionTable := #[], attributes := #[] }
def k9m2 : Method := { name := "option", desc := "()Ljava/lang/String;", sig := { parameters := [], returnType := some (.object "java/lang/String") }, accessFlags := 0, code := some k9c2 }
def k9c3 : Code := { maxStack := 5, maxLocals := 3, code := prog_2_method_4_code, exceptionTable := #[], attributes := #[] }
def k9m3 : Method := { name := "value", desc := "(Ljava/lang/String;)Ljava/lang/String;", sig := { parameters := [(.object "java/lang/String")], returnType := some (.object "java/lang/String") }, accessFlags := 0, code := some k9c3 }
/-- com/example/steady_courier/steadycourier/OptionReader -/
def k9 : Class := { plain "com/example/steady_courier/steadycourier/OptionReader" (some 0) with
  accessFlags := 48
  interfaces := #[]
  cf := some (fileOf pool9 8 #[] #[{ accessFlags := 0, nameIndex := 5, descriptorIndex := 44, attributes := #[] }, { accessFlags := 0, nameIndex := 47, descriptorIndex := 31, attributes := #[] }, { accessFlags := 0, nameIndex := 49, descriptorIndex := 50, attributes := #[] }, { accessFlags := 0, nameIndex := 51, descriptorIndex := 22, attributes := #[] }] 48 2 #[] #[{ accessFlags := 18, nameIndex := 11, descriptorIndex := 12, attributes := #[] }, { accessFlags := 2, nameIndex := 15, descriptorIndex := 16, attributes := #[] }])
  fields := #[{ name := "arguments", type := (.array (.object "java/lang/String")), accessFlags := 18, slot := 0, constantValue := 0 }, { name := "next", type := .int, accessFlags := 2, slot := 1, constantValue := 0 }]
  methods := #[k9m0, k9m1, k9m2, k9m3]
  instanceTypes := #[(.array (.object "java/lang/String")), .int]
  staticTypes := #[]
  resolved := Array.replicate 76 none
  statics := none }

def pool10 : Array CpInfo := pool [(4, .class_ 6), (1, u "java/lang/Object"), (0, u "<init>"), (0, u "()V"), (5, .class_ 16), (1, u "java/lang/StringLatin1"), (104, u "$assertionsDisabled"), (0, u "Z"), (98, .class_ 223), (1, u "java/lang/StringLatin1$LinesSpliterator"), (166, .class_ 391), (0, u "java/lang/StringLatin1$CharsSpliterator")] 3

def k10m0 : Method := { name := "<init>", desc := "()V", sig := { parameters := [], returnType := none }, accessFlags := 0, code := none }
/-- java/lang/StringLatin1 -/
def k10 : Class := { plain "java/lang/StringLatin1" (some 0) with
  accessFlags := 48
  interfaces := #[]
  cf := some (fileOf pool10 14 #[.nestMembers #[390, 221]] #[{ accessFlags := 0, nameIndex := 7, descriptorIndex := 8, attributes := #[] }] 48 4 #[] #[{ accessFlags := 4120, nameIndex := 121, descriptorIndex := 122, attributes := #[] }])
  fields := #[{ name := "$assertionsDisabled", type := .boolean, accessFlags := 4120, slot := 0, constantValue := 0 }]
  methods := #[k10m0]
  instanceTypes := #[]
  staticTypes := #[.boolean]
  resolved := Array.replicate 395 none
  statics := none }

def pool11 : Array CpInfo := pool [(2, .class_ 4), (1, u "java/lang/Object"), (0, u "<init>"), (0, u "()V"), (17, .class_ 26), (1, u "jdk/internal/util/Preconditions"), (28, .class_ 56), (0, u "jdk/internal/util/Preconditions$4"), (57, .class_ 115), (0, u "jdk/internal/util/Preconditions$1"), (7, u "SIOOBE_FORMATTER"), (0, u "Ljava/util/function/BiFunction;"), (0, .class_ 126), (0, u "jdk/internal/util/Preconditions$2"), (3, u "AIOOBE_FORMATTER"), (0, .class_ 132), (0, u "jdk/internal/util/Preconditions$3"), (3, u "IOOBE_FORMATTER")] 57

def k11m0 : Method := { name := "<init>", desc := "()V", sig := { parameters := [], returnType := none }, accessFlags := 1, code := none }
/-- jdk/internal/util/Preconditions -/
def k11 : Class := { plain "jdk/internal/util/Preconditions" (some 0) with
  accessFlags := 33
  interfaces := #[]
  cf := some (fileOf pool11 24 #[.nestMembers #[55, 131, 125, 114]] #[{ accessFlags := 1, nameIndex := 5, descriptorIndex := 6, attributes := #[] }] 33 2 #[] #[{ accessFlags := 25, nameIndex := 123, descriptorIndex := 124, attributes := #[] }, { accessFlags := 25, nameIndex := 130, descriptorIndex := 124, attributes := #[] }, { accessFlags := 25, nameIndex := 136, descriptorIndex := 124, attributes := #[] }])
  fields := #[{ name := "SIOOBE_FORMATTER", type := (.object "java/util/function/BiFunction"), accessFlags := 25, slot := 0, constantValue := 0 }, { name := "AIOOBE_FORMATTER", type := (.object "java/util/function/BiFunction"), accessFlags := 25, slot := 1, constantValue := 0 }, { name := "IOOBE_FORMATTER", type := (.object "java/util/function/BiFunction"), accessFlags := 25, slot := 2, constantValue := 0 }]
  methods := #[k11m0]
  instanceTypes := #[]
  staticTypes := #[(.object "java/util/function/BiFunction"), (.object "java/util/function/BiFunction"), (.object "java/util/function/BiFunction")]
  resolved := Array.replicate 194 none
  statics := some 1 }

def pool12 : Array CpInfo := pool [(9, u "<init>"), (6, .class_ 18), (1, u "java/lang/Object"), (0, u "()V"), (1, .class_ 23), (1, u "jdk/internal/util/ArraysSupport"), (0, u "LOG2_ARRAY_LONG_INDEX_SCALE"), (0, u "I"), (2, u "U"), (0, u "Ljdk/internal/misc/Unsafe;"), (8, u "BIG_ENDIAN"), (0, u "Z"), (8, u "LOG2_BYTE_BIT_SIZE"), (4, u "LOG2_ARRAY_INT_INDEX_SCALE"), (54, u "JLA"), (0, u "Ljdk/internal/access/JavaLangAccess;"), (11, u "LOG2_ARRAY_BOOLEAN_INDEX_SCALE"), (9, u "LOG2_ARRAY_BYTE_INDEX_SCALE"), (5, u "LOG2_ARRAY_CHAR_INDEX_SCALE"), (5, u "LOG2_ARRAY_SHORT_INDEX_SCALE"), (18, u "LOG2_ARRAY_FLOAT_INDEX_SCALE"), (24, u "LOG2_ARRAY_DOUBLE_INDEX_SCALE"), (89, u "T_BOOLEAN"), (2, u "T_CHAR"), (1, u "T_FLOAT"), (1, u "T_DOUBLE"), (1, u "T_BYTE"), (1, u "T_SHORT"), (1, u "T_INT"), (1, u "T_LONG"), (1, u "SOFT_MAX_ARRAY_LENGTH")] 83

def k12m0 : Method := { name := "<init>", desc := "()V", sig := { parameters := [], returnType := none }, accessFlags := 2, code := none }
/-- jdk/internal/util/ArraysSupport -/
def k12 : Class := { plain "jdk/internal/util/ArraysSupport" (some 0) with
  accessFlags := 33
  interfaces := #[]
  cf := some (fileOf pool12 21 #[] #[{ accessFlags := 2, nameIndex := 9, descriptorIndex := 19, attributes := #[] }] 33 16 #[] #[{ accessFlags := 24, nameIndex := 28, descriptorIndex := 29, attributes := #[] }, { accessFlags := 26, nameIndex := 38, descriptorIndex := 39, attributes := #[] }, { accessFlags := 25, nameIndex := 121, descriptorIndex := 25, attributes := #[] }, { accessFlags := 25, nameIndex := 131, descriptorIndex := 25, attributes := #[] }, { accessFlags := 25, nameIndex := 137, descriptorIndex := 25, attributes := #[] }, { accessFlags := 25, nameIndex := 143, descriptorIndex := 25, attributes := #[] }, { accessFlags := 25, nameIndex := 53, descriptorIndex := 25, attributes := #[] }, { accessFlags := 25, nameIndex := 24, descriptorIndex := 25, attributes := #[] }, { accessFlags := 25, nameIndex := 162, descriptorIndex := 25, attributes := #[] }, { accessFlags := 25, nameIndex := 187, descriptorIndex := 25, attributes := #[] }, { accessFlags := 26, nameIndex := 48, descriptorIndex := 25, attributes := #[] }, { accessFlags := 25, nameIndex := 277, descriptorIndex := 25, attributes := #[] }, { accessFlags := 25, nameIndex := 280, descriptorIndex := 25, attributes := #[] }, { accessFlags := 25, nameIndex := 282, descriptorIndex := 25, attributes := #[] }, { accessFlags := 25, nameIndex := 284, descriptorIndex := 25, attributes := #[] }, { accessFlags := 25, nameIndex := 286, descriptorIndex := 25, attributes := #[] }, { accessFlags := 25, nameIndex := 288, descriptorIndex := 25, attributes := #[] }, { accessFlags := 25, nameIndex := 290, descriptorIndex := 25, attributes := #[] }, { accessFlags := 25, nameIndex := 292, descriptorIndex := 25, attributes := #[] }, { accessFlags := 26, nameIndex := 108, descriptorIndex := 109, attributes := #[] }, { accessFlags := 25, nameIndex := 294, descriptorIndex := 25, attributes := #[] }])
  fields := #[{ name := "U", type := (.object "jdk/internal/misc/Unsafe"), accessFlags := 24, slot := 0, constantValue := 0 }, { name := "BIG_ENDIAN", type := .boolean, accessFlags := 26, slot := 1, constantValue := 0 }, { name := "LOG2_ARRAY_BOOLEAN_INDEX_SCALE", type := .int, accessFlags := 25, slot := 2, constantValue := 0 }, { name := "LOG2_ARRAY_BYTE_INDEX_SCALE", type := .int, accessFlags := 25, slot := 3, constantValue := 0 }, { name := "LOG2_ARRAY_CHAR_INDEX_SCALE", type := .int, accessFlags := 25, slot := 4, constantValue := 0 }, { name := "LOG2_ARRAY_SHORT_INDEX_SCALE", type := .int, accessFlags := 25, slot := 5, constantValue := 0 }, { name := "LOG2_ARRAY_INT_INDEX_SCALE", type := .int, accessFlags := 25, slot := 6, constantValue := 0 }, { name := "LOG2_ARRAY_LONG_INDEX_SCALE", type := .int, accessFlags := 25, slot := 7, constantValue := 0 }, { name := "LOG2_ARRAY_FLOAT_INDEX_SCALE", type := .int, accessFlags := 25, slot := 8, constantValue := 0 }, { name := "LOG2_ARRAY_DOUBLE_INDEX_SCALE", type := .int, accessFlags := 25, slot := 9, constantValue := 0 }, { name := "LOG2_BYTE_BIT_SIZE", type := .int, accessFlags := 26, slot := 10, constantValue := 0 }, { name := "T_BOOLEAN", type := .int, accessFlags := 25, slot := 11, constantValue := 0 }, { name := "T_CHAR", type := .int, accessFlags := 25, slot := 12, constantValue := 0 }, { name := "T_FLOAT", type := .int, accessFlags := 25, slot := 13, constantValue := 0 }, { name := "T_DOUBLE", type := .int, accessFlags := 25, slot := 14, constantValue := 0 }, { name := "T_BYTE", type := .int, accessFlags := 25, slot := 15, constantValue := 0 }, { name := "T_SHORT", type := .int, accessFlags := 25, slot := 16, constantValue := 0 }, { name := "T_INT", type := .int, accessFlags := 25, slot := 17, constantValue := 0 }, { name := "T_LONG", type := .int, accessFlags := 25, slot := 18, constantValue := 0 }, { name := "JLA", type := (.object "jdk/internal/access/JavaLangAccess"), accessFlags := 26, slot := 19, constantValue := 0 }, { name := "SOFT_MAX_ARRAY_LENGTH", type := .int, accessFlags := 25, slot := 20, constantValue := 0 }]
  methods := #[k12m0]
  instanceTypes := #[]
  staticTypes := #[(.object "jdk/internal/misc/Unsafe"), .boolean, .int, .int, .int, .int, .int, .int, .int, .int, .int, .int, .int, .int, .int, .int, .int, .int, .int, (.object "jdk/internal/access/JavaLangAccess"), .int]
  resolved := Array.replicate 378 none
  statics := none }

def pool13 : Array CpInfo := pool [(1, u "java/lang/Cloneable"), (0, .class_ 1), (0, u "java/lang/Object"), (0, .class_ 3)] 3

/-- java/lang/Cloneable -/
def k13 : Class := { plain "java/lang/Cloneable" (some 0) with
  accessFlags := 1537
  interfaces := #[]
  cf := some (fileOf pool13 2 #[] #[] 1537 4 #[] #[])
  fields := #[]
  methods := #[]
  instanceTypes := #[]
  staticTypes := #[]
  resolved := Array.replicate 8 none
  statics := none }

/-- the primitive byte -/
def k14 : Class := { plain "byte" none with kind := .primitive 'B', accessFlags := 0x411 }
/-- [B -/
def k15 : Class := { plain "[B" (some 0) with kind := .array 14 .byte, interfaces := #[13, 2], accessFlags := 1041 }

/-- the primitive char -/
def k16 : Class := { plain "char" none with kind := .primitive 'C', accessFlags := 0x411 }
/-- [C -/
def k17 : Class := { plain "[C" (some 0) with kind := .array 16 .char, interfaces := #[13, 2], accessFlags := 1041 }

/-- the primitive int -/
def k18 : Class := { plain "int" none with kind := .primitive 'I', accessFlags := 0x411 }
/-- [I -/
def k19 : Class := { plain "[I" (some 0) with kind := .array 18 .int, interfaces := #[13, 2], accessFlags := 1041 }

/-- [Ljava/lang/String; -/
def k20 : Class := { plain "[Ljava/lang/String;" (some 0) with kind := .array 7 (.object "java/lang/String"), interfaces := #[13, 2], accessFlags := 1041 }

def heap : Heap := #[{ cls := 7, slots := #[.long 0, .int 1, .null, .int 0, .null, .int 0, .int 0], vm := .statics 7 },
  { cls := 11, slots := #[.null, .null, .null], vm := .statics 11 }]
def classes : Array Class := #[k0, k1, k2, k3, k4, k5, k6, k7, k8, k9, k10, k11, k12, k13, k14, k15, k16, k17, k18, k19, k20]
def interned : List (Array UInt16 × Addr) := []
def slotsUsed : Nat := 10
def theMethod : MethodId := ⟨1, 1⟩
def args0 : Array Value := #[.int 65, .int 66, .int 67, .int 1]
def aboutOver (below : List Frame) : State where
  vm := { classes := classes, interned := interned.toArray }
  heap := heap
  slotsUsed := slotsUsed
  threads := #[{ frames := .invoking theMethod args0 :: below }]
def below0 : List Frame := [.native { method := ⟨0, 0⟩, args := #[] }]
def about1 : State := aboutOver below0
def p0 : Program := .bare "" "" ""
def e0 : Env := launch0.env 0 0 0
theorem w_frames : about1.frames = Frame.invoking theMethod args0 :: below0 := rfl
set_option maxRecDepth 65536 in
theorem w_args : argsFit about1.vm theMethod args0 = true := by decide +kernel
set_option maxRecDepth 65536 in
theorem w_heap : heapFits about1 = true := by decide +kernel
set_option maxRecDepth 65536 in
theorem w_runnable : about1.curStatus? = some .runnable := by decide +kernel
set_option maxRecDepth 65536 in
theorem w_alone : about1.alone = true := by decide +kernel
set_option maxRecDepth 65536 in
theorem w_named : about1.methodNamed? x = some theMethod := by decide +kernel
set_option maxRecDepth 65536 in
theorem w_hears : about1.hears theMethod below0 = true := by decide +kernel
set_option maxRecDepth 65536 in
theorem w_ripe : about1.ripe theMethod args0 below0 = true := by decide +kernel
theorem w_running : about1.status = .running := rfl
set_option maxRecDepth 65536 in
theorem w_room : about1.hasRoom e0.platform room_1 = true :=
  launch0.hasRoom_least _ room_1 (by decide +kernel) (by decide +kernel) (by decide +kernel) (by decide +kernel) (by decide +kernel) (by decide +kernel)
theorem allAtoms_all (ts : List Jvm.Cond) (a : Array Jvm.Value) (st : Jvm.State) : (allAtoms ts).before a st = ts.all (fun c => c.before a st) := by
  induction ts with
  | nil => rfl
  | cons c t ih =>
    show (Jvm.Cond.and c (allAtoms t)).before a st = _
    rw [Jvm.Cond.before_and, ih, List.all_cons]
def words1 : List Jvm.Cond := Jvm.Cond.code x code maxLocals ret :: tables_1
/-- a 'code' word, met by the world's own term for the bytes: nothing is compared byte by byte -/
theorem code_word {y : MethodName} {bytes : ByteArray} {mx : Nat} {rt : Option FieldType} {a : Array Value} {s : State} {m : MethodId} {meth : Method} {c : Code} (h1 : s.methodNamed? y = some m) (h2 : s.vm.method? m = some meth) (h3 : meth.code = some c) (h4 : c.code = bytes)
    (h5 : (c.maxLocals == mx && c.exceptionTable.isEmpty && decide (c.maxStack ≤ mostOperands) && decide (meth.sig.returnType = rt) && !meth.locks && decide (parseMethodDescriptor y.desc = some meth.sig)) = true) : (Jvm.Cond.code y bytes mx rt).before a s = true := by
  simp only [Bool.and_eq_true, beq_iff_eq, Bool.not_eq_true', decide_eq_true_eq] at h5
  obtain ⟨⟨⟨⟨⟨g1, g2⟩, g3⟩, g4⟩, g5⟩, g6⟩ := h5
  simp [Cond.before, Cond.holds, Cond.value, h1, h2, h3, h4, g1, g2, g3, g4, g5, g6]
def isCode : Jvm.Cond → Bool
  | .code _ _ _ _ => true
  | _ => false
theorem all_split {L : List Jvm.Cond} {P : Jvm.Cond → Bool} (h1 : L.all (fun c => isCode c || P c) = true) (h2 : ∀ c ∈ L.filter isCode, P c = true) : L.all P = true := by
  refine List.all_eq_true.mpr fun c hc => ?_
  have h := List.all_eq_true.mp h1 c hc
  rcases Bool.eq_false_or_eq_true (isCode c) with hi | hi
  · exact h2 c (List.mem_filter.mpr ⟨hc, hi⟩)
  · simpa [hi] using h
set_option maxRecDepth 65536 in
theorem w_c0 : (Jvm.Cond.code x code maxLocals ret).before args0 about1 = true := code_word (m := ⟨1, 1⟩) (meth := k1m1) (c := k1c1) (by decide +kernel) rfl rfl rfl (by decide +kernel)
set_option maxRecDepth 65536 in
theorem w_c1 : (Jvm.Cond.code ({ cls := "java/lang/String", name := "<init>", desc := "([C)V" } : Jvm.MethodName) jdk_42_method_3_code (2 : Nat) (Option.none : Option Jvm.ClassFile.FieldType)).before args0 about1 = true := code_word (m := ⟨7, 1⟩) (meth := k7m1) (c := k7c1) (by decide +kernel) rfl rfl rfl (by decide +kernel)
set_option maxRecDepth 65536 in
theorem w_c2 : (Jvm.Cond.code ({ cls := "java/lang/String", name := "<init>", desc := "([CIILjava/lang/Void;)V" } : Jvm.MethodName) jdk_42_method_149_code (6 : Nat) (Option.none : Option Jvm.ClassFile.FieldType)).before args0 about1 = true := code_word (m := ⟨7, 4⟩) (meth := k7m4) (c := k7c4) (by decide +kernel) rfl rfl rfl (by decide +kernel)
set_option maxRecDepth 65536 in
theorem w_c3 : (Jvm.Cond.code ({ cls := "java/lang/Object", name := "<init>", desc := "()V" } : Jvm.MethodName) object_method_1_code (1 : Nat) (Option.none : Option Jvm.ClassFile.FieldType)).before args0 about1 = true := code_word (m := ⟨0, 0⟩) (meth := k0m0) (c := k0c0) (by decide +kernel) rfl rfl rfl (by decide +kernel)
set_option maxRecDepth 65536 in
theorem w_c4 : (Jvm.Cond.code ({ cls := "java/lang/StringUTF16", name := "compress", desc := "([CII)[B" } : Jvm.MethodName) jdk_52_method_16_code (6 : Nat) (Option.some (Jvm.ClassFile.FieldType.array Jvm.ClassFile.FieldType.byte))).before args0 about1 = true := code_word (m := ⟨8, 2⟩) (meth := k8m2) (c := k8c2) (by decide +kernel) rfl rfl rfl (by decide +kernel)
set_option maxRecDepth 65536 in
theorem w_c5 : (Jvm.Cond.code ({ cls := "java/lang/StringUTF16", name := "compress", desc := "([CI[BII)I" } : Jvm.MethodName) jdk_52_method_21_code (7 : Nat) (Option.some Jvm.ClassFile.FieldType.int)).before args0 about1 = true := code_word (m := ⟨8, 3⟩) (meth := k8m3) (c := k8c3) (by decide +kernel) rfl rfl rfl (by decide +kernel)
set_option maxRecDepth 65536 in
theorem w_c6 : (Jvm.Cond.code ({ cls := "java/lang/StringUTF16", name := "coderFromArrayLen", desc := "([BI)B" } : Jvm.MethodName) jdk_52_method_15_code (2 : Nat) (Option.some Jvm.ClassFile.FieldType.byte)).before args0 about1 = true := code_word (m := ⟨8, 1⟩) (meth := k8m1) (c := k8c1) (by decide +kernel) rfl rfl rfl (by decide +kernel)
set_option maxRecDepth 65536 in
theorem w_c7 : (Jvm.Cond.code ({ cls := "com/example/steady_courier/steadycourier/OptionReader", name := "<init>", desc := "([Ljava/lang/String;)V" } : Jvm.MethodName) prog_2_method_1_code (2 : Nat) (Option.none : Option Jvm.ClassFile.FieldType)).before args0 about1 = true := code_word (m := ⟨9, 0⟩) (meth := k9m0) (c := k9c0) (by decide +kernel) rfl rfl rfl (by decide +kernel)
set_option maxRecDepth 65536 in
theorem w_c8 : (Jvm.Cond.code ({ cls := "com/example/steady_courier/steadycourier/OptionReader", name := "hasNext", desc := "()Z" } : Jvm.MethodName) prog_2_method_2_code (1 : Nat) (Option.some Jvm.ClassFile.FieldType.boolean)).before args0 about1 = true := code_word (m := ⟨9, 1⟩) (meth := k9m1) (c := k9c1) (by decide +kernel) rfl rfl rfl (by decide +kernel)
set_option maxRecDepth 65536 in
theorem w_c9 : (Jvm.Cond.code ({ cls := "com/example/steady_courier/steadycourier/OptionReader", name := "option", desc := "()Ljava/lang/String;" } : Jvm.MethodName) prog_2_method_3_code (1 : Nat) (Option.some (Jvm.ClassFile.FieldType.object "java/lang/String"))).before args0 about1 = true := code_word (m := ⟨9, 2⟩) (meth := k9m2) (c := k9c2) (by decide +kernel) rfl rfl rfl (by decide +kernel)
set_option maxRecDepth 65536 in
theorem w_c10 : (Jvm.Cond.code ({ cls := "java/lang/String", name := "equals", desc := "(Ljava/lang/Object;)Z" } : Jvm.MethodName) jdk_42_method_66_code (3 : Nat) (Option.some Jvm.ClassFile.FieldType.boolean)).before args0 about1 = true := code_word (m := ⟨7, 3⟩) (meth := k7m3) (c := k7c3) (by decide +kernel) rfl rfl rfl (by decide +kernel)
set_option maxRecDepth 65536 in
theorem w_c11 : (Jvm.Cond.code ({ cls := "com/example/steady_courier/steadycourier/OptionReader", name := "value", desc := "(Ljava/lang/String;)Ljava/lang/String;" } : Jvm.MethodName) prog_2_method_4_code (3 : Nat) (Option.some (Jvm.ClassFile.FieldType.object "java/lang/String"))).before args0 about1 = true := code_word (m := ⟨9, 3⟩) (meth := k9m3) (c := k9c3) (by decide +kernel) rfl rfl rfl (by decide +kernel)
set_option maxRecDepth 65536 in
theorem w_c12 : (Jvm.Cond.code ({ cls := "java/lang/String", name := "isEmpty", desc := "()Z" } : Jvm.MethodName) jdk_42_method_55_code (1 : Nat) (Option.some Jvm.ClassFile.FieldType.boolean)).before args0 about1 = true := code_word (m := ⟨7, 2⟩) (meth := k7m2) (c := k7c2) (by decide +kernel) rfl rfl rfl (by decide +kernel)
def codes1 : List Jvm.Cond := [Jvm.Cond.code x code maxLocals ret, Jvm.Cond.code ({ cls := "java/lang/String", name := "<init>", desc := "([C)V" } : Jvm.MethodName) jdk_42_method_3_code (2 : Nat) (Option.none : Option Jvm.ClassFile.FieldType), Jvm.Cond.code ({ cls := "java/lang/String", name := "<init>", desc := "([CIILjava/lang/Void;)V" } : Jvm.MethodName) jdk_42_method_149_code (6 : Nat) (Option.none : Option Jvm.ClassFile.FieldType), Jvm.Cond.code ({ cls := "java/lang/Object", name := "<init>", desc := "()V" } : Jvm.MethodName) object_method_1_code (1 : Nat) (Option.none : Option Jvm.ClassFile.FieldType), Jvm.Cond.code ({ cls := "java/lang/StringUTF16", name := "compress", desc := "([CII)[B" } : Jvm.MethodName) jdk_52_method_16_code (6 : Nat) (Option.some (Jvm.ClassFile.FieldType.array Jvm.ClassFile.FieldType.byte)), Jvm.Cond.code ({ cls := "java/lang/StringUTF16", name := "compress", desc := "([CI[BII)I" } : Jvm.MethodName) jdk_52_method_21_code (7 : Nat) (Option.some Jvm.ClassFile.FieldType.int), Jvm.Cond.code ({ cls := "java/lang/StringUTF16", name := "coderFromArrayLen", desc := "([BI)B" } : Jvm.MethodName) jdk_52_method_15_code (2 : Nat) (Option.some Jvm.ClassFile.FieldType.byte), Jvm.Cond.code ({ cls := "com/example/steady_courier/steadycourier/OptionReader", name := "<init>", desc := "([Ljava/lang/String;)V" } : Jvm.MethodName) prog_2_method_1_code (2 : Nat) (Option.none : Option Jvm.ClassFile.FieldType), Jvm.Cond.code ({ cls := "com/example/steady_courier/steadycourier/OptionReader", name := "hasNext", desc := "()Z" } : Jvm.MethodName) prog_2_method_2_code (1 : Nat) (Option.some Jvm.ClassFile.FieldType.boolean), Jvm.Cond.code ({ cls := "com/example/steady_courier/steadycourier/OptionReader", name := "option", desc := "()Ljava/lang/String;" } : Jvm.MethodName) prog_2_method_3_code (1 : Nat) (Option.some (Jvm.ClassFile.FieldType.object "java/lang/String")), Jvm.Cond.code ({ cls := "java/lang/String", name := "equals", desc := "(Ljava/lang/Object;)Z" } : Jvm.MethodName) jdk_42_method_66_code (3 : Nat) (Option.some Jvm.ClassFile.FieldType.boolean), Jvm.Cond.code ({ cls := "com/example/steady_courier/steadycourier/OptionReader", name := "value", desc := "(Ljava/lang/String;)Ljava/lang/String;" } : Jvm.MethodName) prog_2_method_4_code (3 : Nat) (Option.some (Jvm.ClassFile.FieldType.object "java/lang/String")), Jvm.Cond.code ({ cls := "java/lang/String", name := "isEmpty", desc := "()Z" } : Jvm.MethodName) jdk_42_method_55_code (1 : Nat) (Option.some Jvm.ClassFile.FieldType.boolean)]
set_option maxRecDepth 65536 in
theorem codes_eq : words1.filter isCode = codes1 := rfl
theorem w_codes : ∀ c ∈ words1.filter isCode, c.before args0 about1 = true := by
  rw [codes_eq]
  intro c hc
  simp only [codes1, List.mem_cons, List.not_mem_nil, or_false] at hc
  rcases hc with rfl | rfl | rfl | rfl | rfl | rfl | rfl | rfl | rfl | rfl | rfl | rfl | rfl
  · exact w_c0
  · exact w_c1
  · exact w_c2
  · exact w_c3
  · exact w_c4
  · exact w_c5
  · exact w_c6
  · exact w_c7
  · exact w_c8
  · exact w_c9
  · exact w_c10
  · exact w_c11
  · exact w_c12
set_option maxRecDepth 65536 in
theorem w_t1 : (words1.take 24).all (fun c => isCode c || c.before args0 about1) = true := by decide +kernel
set_option maxRecDepth 65536 in
theorem w_t2 : ((words1.drop 24).take 24).all (fun c => isCode c || c.before args0 about1) = true := by decide +kernel
set_option maxRecDepth 65536 in
theorem w_t3 : ((words1.drop 24).drop 24).all (fun c => isCode c || c.before args0 about1) = true := by decide +kernel
theorem w_tables : (allAtoms (Jvm.Cond.code x code maxLocals ret :: tables_1)).before args0 about1 = true := by
  rw [allAtoms_all]
  show words1.all (fun c => c.before args0 about1) = true
  refine all_split ?_ w_codes
  rw [← List.take_append_drop 24 words1, List.all_append, w_t1, ← List.take_append_drop 24 (words1.drop 24), List.all_append, w_t2, w_t3]
  rfl
set_option maxRecDepth 65536 in
theorem w_rest : rest_1_c.before args0 about1 = true := by decide +kernel
set_option maxRecDepth 65536 in
theorem w_case : (Jvm.Cond.and given_1 narrow_1).before args0 about1 = true := by decide +kernel
set_option maxRecDepth 65536 in
theorem w_consts : constsHeld consts_1 about1 := Jvm.Lit.constsHeldB_iff.mp (by decide +kernel)
theorem w_applies : (headSpec (Jvm.Cond.code x code maxLocals ret :: tables_1) room_1).applies x e0.platform about1 = true :=
  (Spec.applies_iff w_frames).mpr ⟨w_running, w_runnable, w_alone, w_named, w_hears, w_ripe, w_room, w_tables⟩
theorem atStart : AtStart classFile x code maxLocals ret World_1 tables_1 room_1 Calls_1 rest_1 Pre_1 launch0 p0 e0 about1 theMethod args0 below0 :=
  ⟨lists_1, trivial, launch0.admits_env _ _ _, launch0.least_env, fairChoices_fair.cas, fairChoices_fair.clock, w_frames, w_args, w_heap, w_applies, ⟨w_consts, trivial⟩, w_rest, w_case⟩
end start1
theorem witness_1 : WitnessClaimed_1 := ⟨start1.p0, start1.e0, start1.about1, start1.theMethod, start1.args0, start1.below0, start1.atStart⟩
end Jvm.Pilot.@@N@@
