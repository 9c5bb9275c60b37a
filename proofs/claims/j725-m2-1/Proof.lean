import JvmDerived
import JvmDerived.Pilot.@@N@@Statement
import JvmDerived.Pilot.@@N@@Code
set_option linter.unusedVariables false
set_option linter.unusedSimpArgs false

namespace Jvm.RoadKit
open Sem ClassFile Op Lib Jvm.Stand Jvm.Free Jvm.LawKit
section New
variable {p : Program} {l : Launch} {e : Env} {R : Room} {s : State} {m : MethodId} {args : Array Value} {below : List Frame} {meth : Method} {c : Code} {T : State} {locs : List Loc} {cells slots : Nat}
theorem retI (X : Stand p l e R s m args below meth c T locs cells slots) (hx : p.tables.exec = Jvm.exec) {pc : Nat} {Ls : Array Slot} {z : Int32} {rest : List Value} (hret : meth.sig.returnType = some .int) (hd : decode c.code pc = .ok (.ireturn, 1)) {fs : List Frame}
    (hl : ∀ (f : JFrame) (acts : List Action), f.method = m → f.locked = none → f.entered = [] → (doReturn e (T.setTop f) acts (some (.int z))).1 = T.setFrames fs) : Steps p.tables e below (T.setTop (mkF m pc Ls (.int z :: rest))) (T.setFrames fs) := by
  have hm' : T.vm.method? m = some meth := X.method'
  have hn : narrow .int (.int z) = .int z := rfl
  show Steps p.tables e below (T.setTop { method := m, pc := pc, locals := Ls, stack := _ :: rest, locked := none }) _
  jvm_step X.here [X.here.top, hx, hd, hm', hret, hn]
  first | (intro acts; rw [hl _ acts rfl rfl rfl]) | rw [hl _ _ rfl rfl rfl]
  exact Steps.refl _
end New
end Jvm.RoadKit

namespace Jvm.Pilot.@@N@@
open Jvm Jvm.ClassFile Sem Op Lib Jvm.Free Jvm.Stand Jvm.LawKit Jvm.RoadKit Bundle Jvm.Pilot.@@N@@.Jvm.D
theorem own_stak {Z : State} {h h' : Heap} {C n d : String} {v : Value} {ws : List Addr} (F : Sta Z h C n d v) (K : Keep h h' ws) (q : ∀ x ∈ ws, ∀ c : Cell, h[x]? = some c → c.vm.isStatics = false) : Sta Z h' C n d v := by
  obtain ⟨cf, i, k, f, st, cell, h1, h2, h3, h4, h5, h6, h7⟩ := F
  refine ⟨cf, i, k, f, st, cell, h1, h2, h3, h4, K.2.1 st cell h5 (fun hm => ?_), h6, h7⟩
  have e := q st hm cell h5
  rw [h6] at e; cases e
theorem own_exns {Z : State} {h : Heap} {a : Addr} {C : String} (E : Exa Z h a C) : ∀ c : Cell, h[a]? = some c → c.vm.isStatics = false := fun c hc => by
  obtain ⟨c', k, e1, -, -, e4, -⟩ := E
  cases hc.symm.trans e1; exact e4
theorem own_arns {Z : State} {h : Heap} {a : Addr} {k : ClassId} {ty : FieldType} {z : Int32} {vs : List Value} {d : Value} (A : Arv Z h a k ty z vs d) : ∀ c : Cell, h[a]? = some c → c.vm.isStatics = false := fun c hc => by
  obtain ⟨c', A', -⟩ := A
  have e := A'.plain
  cases hc.symm.trans A'.1; exact e
abbrev oS (p : Program) (e : Env) (below : List Frame) (T : State) (g : JFrame) (t : State) : Prop := Steps p.tables e below (T.setTop g) t
theorem own_w (i : Nat) {d : Jvm.Cond} (h : tables_1[i]? = some d) : d ∈ tables_1 := List.mem_of_getElem? h
abbrev own_Met (l : Launch) (y : MethodName) (bytes : ByteArray) (maxL : Nat) (ret : Option FieldType) (ws : List Jvm.Cond) (rm : Room) (as' : Array Value) (Z : State) (h0 : Heap) (Q : Option Value → Heap → List Loc → Prop) : Prop :=
  MetFree l y (head1 (Jvm.Cond.code y bytes maxL ret :: ws) rm) (fun aU U => aU = as' ∧ Z.Warmed39 U.vm ∧ U.heap = h0) (fun _ _ _ _ _ => True) (fun _ U oU U' => ∃ vU LU, oU = .returned vU ∧ Q vU U'.heap LU ∧ FrameEnd U oU U' LU rm.cells rm.slots)
theorem own_weak {l : Launch} {y : MethodName} {bytes : ByteArray} {maxL : Nat} {ret : Option FieldType} {ws : List Jvm.Cond} {rm : Room} {as' : Array Value} {Z : State} {h0 : Heap} {Q Q' : Option Value → Heap → List Loc → Prop} (h : own_Met l y bytes maxL ret ws rm as' Z h0 Q) (hq : ∀ v t L, Q v t L → Q' v t L) : own_Met l y bytes maxL ret ws rm as' Z h0 Q' := by
  intro p e ha hc hk s m args below hf happ hP hK
  obtain ⟨n, o, h1, h2, h3, v, L, h4, h5, h6⟩ := h p e ha hc hk s m args below hf happ hP hK
  exact ⟨n, o, h1, h2, h3, v, L, h4, hq _ _ _ h5, h6⟩
theorem own_start {p : Program} {l : Launch} {y : MethodName} {ws : List Jvm.Cond} {rm : Room} {code : ByteArray} {maxL : Nat} {ret : Option FieldType} {e : Env} {s : State} {m : MethodId} {args : Array Value} {below : List Frame} {meth : Method} {c : Code} {s₁ : State} {h0 : Heap}
    (Bd : BodyLoose p l y (head1 ws rm) code maxL ret e s m args below meth c s₁) (hml : c.maxLocals = maxL) (hh : s.heap = h0) :
    p.tables.exec = Jvm.exec ∧ c.code = code ∧ s.vm.findClass y.cls = some m.cls ∧ meth.name = y.name ∧ Stand p l e rm s m args below meth c s₁ [] 0 0 ∧ s₁.heap = h0 :=
  ⟨Bd.exec, Bd.bytes, findClass_of_methodNamed Bd.named, (name_of_methodNamed Bd.named Bd.method).1, Stand.of_body Bd, by rw [← hh, Bd.state]; rfl⟩
section OwnCalls
variable {p : Program} {l : Launch} {e : Env} {R : Room} {s : State} {m : MethodId} {args : Array Value} {below : List Frame} {meth : Method} {c : Code} {T : State} {locs : List Loc} {cells slots : Nat} {Z : State} {a0 : Array Value} {h : Heap}
  {own : String} {index : Nat} {y z : MethodName} {bytes : ByteArray} {maxL : Nat} {ret : Option FieldType} {rm : Room} {W : Nat} {as' : Array Value} {Q : Option Value → Heap → List Loc → Prop}
theorem own_callS (X : Stand p l e R s m args below meth c T locs cells slots) (hx : p.tables.exec = Jvm.exec) (hZ : Z.Warmed39 s.vm) (hown : s.vm.findClass own = some m.cls) (hlink : (Cond.methodLink own index y).before a0 Z = true) (hstat : (Cond.static y).before a0 Z = true) (hinit : (Cond.initialized y.cls).before a0 Z = true)
    (hcode : (Cond.code y bytes maxL ret).before a0 Z = true) (hy : y.cls ≠ "java/lang/invoke/MethodHandle" ∧ y.cls ≠ "java/lang/invoke/VarHandle")
    (hM : own_Met l y bytes maxL ret [] rm as' Z h Q)
    (hf : rm.frames + 1 ≤ R.frames) (hl : W + (maxL + 11) + rm.locals ≤ R.locals) {g : JFrame} (hg : g.method = m) (hsize : g.locals.size = c.maxLocals) {argsL rest : List Value} (hlen : ∀ sig, parseMethodDescriptor y.desc = some sig → argsL.length = sig.parameters.length)
    (hstack : g.stack = argsL.reverse ++ rest) (hdg : decode c.code g.pc = .ok (.invokestatic index, 3)) (has : argsL.toArray = as') (eT : T.heap = h) (hc : cells + rm.cells ≤ R.cells) (hs : slots + rm.slots ≤ R.slots) (hW : 2 * g.monitorRoom + (rest.map fun v => v.category).sum ≤ W := by show 2 * 0 + _ ≤ _; exact Nat.le_of_eq rfl) :
    ∃ (v : Option Value) (T' : State) (L : List Loc), Stand p l e R s m args below meth c T' (locs ++ L) (cells + rm.cells) (slots + rm.slots) ∧ Q v T'.heap L ∧ ∀ target, Steps p.tables e below (T'.setTop { g with pc := g.pc + 3, stack := v.toList ++ rest }) target → Steps p.tables e below (T.setTop g) target := by
  obtain ⟨v, _, ⟨T3, L3, k3, n3⟩, -, X3, ⟨Lc3, hQ3, l3, y3, z3⟩, st3⟩ := Jvm.LawKit.callS X hx hown (mvT hZ hlink) (mvT hZ hstat) (mvT hZ hinit) (mvT hZ hcode) hy (backOf (W := W) hM hZ hcode hinit hf hl) hg hsize hlen hstack hW hdg (fun _ _ => ⟨has, eT, hc, hs⟩)
  dsimp only [Pt.U, Pt.locs, Pt.cells, Pt.slots] at X3 l3 y3 z3 st3 hQ3
  subst l3 y3 z3
  exact ⟨v, T3, Lc3, X3, hQ3, st3⟩
theorem own_special (X : Stand p l e R s m args below meth c T locs cells slots) (hx : p.tables.exec = Jvm.exec) (hZ : Z.Warmed39 s.vm) (hy1 : y.name = "<init>") (hown : s.vm.findClass own = some m.cls) (hlink : (Cond.methodLink own index y).before a0 Z = true) (hinst : (Cond.instanceMethod y).before a0 Z = true)
    (hcode : (Cond.code y bytes maxL none).before a0 Z = true) (hinit : (Cond.initialized y.cls).before a0 Z = true) (hy : y.cls ≠ "java/lang/invoke/MethodHandle" ∧ y.cls ≠ "java/lang/invoke/VarHandle")
    (hM : own_Met l y bytes maxL none [] rm as' Z h Q)
    (hf : rm.frames + 1 ≤ R.frames) (hl : W + (maxL + 11) + rm.locals ≤ R.locals) {g : JFrame} (hg : g.method = m) (hsize : g.locals.size = c.maxLocals) {a : Addr} {argsL rest : List Value} (hlen : ∀ sig, parseMethodDescriptor y.desc = some sig → argsL.length = sig.parameters.length)
    (hstack : g.stack = argsL.reverse ++ .ref a :: rest) (hdg : decode c.code g.pc = .ok (.invokespecial index, 3)) (has : (.ref a :: argsL).toArray = as') (eT : T.heap = h) (hc : cells + rm.cells ≤ R.cells) (hs : slots + rm.slots ≤ R.slots) (hW : 2 * g.monitorRoom + (rest.map fun v => v.category).sum ≤ W := by show 2 * 0 + _ ≤ _; exact Nat.le_of_eq rfl) :
    ∃ (v : Option Value) (T' : State) (L : List Loc), Stand p l e R s m args below meth c T' (locs ++ L) (cells + rm.cells) (slots + rm.slots) ∧ Q v T'.heap L ∧ ∀ target, Steps p.tables e below (T'.setTop { g with pc := g.pc + 3, stack := v.toList ++ rest }) target → Steps p.tables e below (T.setTop g) target := by
  obtain ⟨v, _, ⟨T3, L3, k3, n3⟩, -, X3, ⟨Lc3, hQ3, l3, y3, z3⟩, st3⟩ := X.specialBack hx hy1 hown (mvT hZ hlink) (mvT hZ hinst) (mvT hZ hcode) hy (backOf (W := W) hM hZ hcode hinit hf hl) hg hsize (Steps.refl _) hlen hstack hW hdg (fun _ _ => ⟨has, eT, hc, hs⟩)
  dsimp only [Pt.U, Pt.locs, Pt.cells, Pt.slots] at X3 l3 y3 z3 st3 hQ3
  subst l3 y3 z3
  exact ⟨v, T3, Lc3, X3, hQ3, fun target k => st3.trans k⟩
theorem own_virtual (X : Stand p l e R s m args below meth c T locs cells slots) (hx : p.tables.exec = Jvm.exec) (hZ : Z.Warmed39 s.vm) {C : String} (hown : s.vm.findClass own = some m.cls) (hlink : (Cond.methodLink own index y).before a0 Z = true) (hdecl : (Cond.declares y).before a0 Z = true) (hnf : NotFace s y) (hsel : (Cond.selects C y z).before a0 Z = true) (hinst : (Cond.instanceMethod z).before a0 Z = true)
    (hcode : (Cond.code z bytes maxL ret).before a0 Z = true) (hinit : (Cond.initialized z.cls).before a0 Z = true) (hy : y.cls ≠ "java/lang/invoke/MethodHandle" ∧ y.cls ≠ "java/lang/invoke/VarHandle")
    (hM : own_Met l z bytes maxL ret [] rm as' Z h Q)
    (hf : rm.frames + 1 ≤ R.frames) (hl : W + (maxL + 11) + rm.locals ≤ R.locals) {a : Addr} (E : Exa Z h a C) {g : JFrame} (hg : g.method = m) (hsize : g.locals.size = c.maxLocals) {argsL rest : List Value} (hlen : ∀ sig, parseMethodDescriptor y.desc = some sig → argsL.length = sig.parameters.length)
    (hstack : g.stack = argsL.reverse ++ .ref a :: rest) (hdg : decode c.code g.pc = .ok (.invokevirtual index, 3)) (has : (.ref a :: argsL).toArray = as') (eT : T.heap = h) (hc : cells + rm.cells ≤ R.cells) (hs : slots + rm.slots ≤ R.slots) (hW : 2 * g.monitorRoom + (rest.map fun v => v.category).sum ≤ W := by show 2 * 0 + _ ≤ _; exact Nat.le_of_eq rfl) :
    ∃ (v : Option Value) (T' : State) (L : List Loc), Stand p l e R s m args below meth c T' (locs ++ L) (cells + rm.cells) (slots + rm.slots) ∧ Q v T'.heap L ∧ ∀ target, Steps p.tables e below (T'.setTop { g with pc := g.pc + 3, stack := v.toList ++ rest }) target → Steps p.tables e below (T.setTop g) target := by
  obtain ⟨cq, kq, qa, qb, qc⟩ := isOf hZ eT E
  obtain ⟨v, _, ⟨T3, L3, k3, n3⟩, -, X3, ⟨Lc3, hQ3, l3, y3, z3⟩, st3⟩ := X.virtualBack hx hown (mvT hZ hlink) (mvT hZ hdecl) hnf (mvT hZ hsel) (mvT hZ hinst) hy (backOf (W := W) hM hZ hcode hinit hf hl) qa qc hg hsize (Steps.refl _) hlen hstack hW hdg (fun _ _ => ⟨has, eT, hc, hs⟩)
  dsimp only [Pt.U, Pt.locs, Pt.cells, Pt.slots] at X3 l3 y3 z3 st3 hQ3
  subst l3 y3 z3
  exact ⟨v, T3, Lc3, X3, hQ3, fun target k => st3.trans k⟩
end OwnCalls
abbrev mN0 : MethodName := ⟨"com/example/headwater/headwater/core/Diagnostic", "breaksLine", "(C)Z"⟩
abbrev mN1 : MethodName := ⟨"com/example/headwater/headwater/core/XsNamesIsNamespaceNamePinLaw", "allowed", "(C)Z"⟩
abbrev mN2 : MethodName := ⟨"java/lang/String", "<init>", "([CIILjava/lang/Void;)V"⟩
abbrev mN3 : MethodName := ⟨"java/lang/String", "<init>", "([C)V"⟩
abbrev mN4 : MethodName := ⟨"java/lang/String", "coder", "()B"⟩
abbrev mN5 : MethodName := ⟨"java/lang/String", "length", "()I"⟩
abbrev mN6 : MethodName := ⟨"com/example/headwater/headwater/core/XsNames", "isNamespaceName", "(Ljava/lang/String;)Z"⟩
abbrev mN7 : MethodName := ⟨"jdk/internal/util/Preconditions", "checkIndex", "(IILjava/util/function/BiFunction;)I"⟩
abbrev mN8 : MethodName := ⟨"java/lang/String", "checkIndex", "(II)V"⟩
abbrev mN9 : MethodName := ⟨"java/lang/String", "isLatin1", "()Z"⟩
abbrev mN10 : MethodName := ⟨"java/lang/StringUTF16", "length", "([B)I"⟩
abbrev mN11 : MethodName := ⟨"java/lang/StringUTF16", "checkIndex", "(I[B)V"⟩
abbrev mN12 : MethodName := ⟨"java/lang/StringUTF16", "getChar", "([BI)C"⟩
abbrev mN13 : MethodName := ⟨"java/lang/StringUTF16", "charAt", "([BI)C"⟩
abbrev mN14 : MethodName := ⟨"java/lang/String", "charAt", "(I)C"⟩
abbrev mN15 : MethodName := ⟨"java/lang/StringLatin1", "charAt", "([BI)C"⟩
abbrev mN16 : MethodName := ⟨"java/lang/StringUTF16", "compress", "([CI[BII)I"⟩
abbrev mN17 : MethodName := ⟨"java/lang/StringUTF16", "newBytesLength", "(I)I"⟩
abbrev mN18 : MethodName := ⟨"java/lang/StringUTF16", "newBytesFor", "(I)[B"⟩
abbrev mN19 : MethodName := ⟨"java/lang/StringUTF16", "putChar", "([BII)V"⟩
abbrev mN20 : MethodName := ⟨"java/lang/StringUTF16", "toBytes", "([CII)[B"⟩
abbrev mN21 : MethodName := ⟨"java/lang/StringUTF16", "compress", "([CII)[B"⟩
abbrev mN22 : MethodName := ⟨"java/lang/StringUTF16", "coderFromArrayLen", "([BI)B"⟩
theorem own_wS {Z : State} {av0 : Array Value} (hw : ∀ d ∈ tables_1, d.before av0 Z = true) : ∀ a ∈ Bundle.stringAtoms, a.before av0 Z = true := fun d hd => hw d (List.contains_iff_mem.mp (List.all_eq_true.mp (by decide +kernel : (Bundle.stringAtoms.all fun q => tables_1.contains q) = true) d hd))
theorem own_backI {l : Launch} {R : Room} {p : Program} {e : Env} {below : List Frame} {s : State} {args : Array Value} {Z : State} {a0 : Array Value} {h : Heap} {y : MethodName} {bytes : ByteArray} {maxL : Nat} {ret : Option FieldType} {rm : Room} {len W : Nat} {as' : Array Value} {Q : Option Value → Heap → List Loc → Prop}
    (hM : MetFree l y (head1 [Cond.code y bytes maxL ret] rm) (fun a U => a = as' ∧ Z.Warmed39 U.vm ∧ U.heap = h ∧ IB Z U.vm []) (fun _ _ _ _ _ => True) (fun _ U o U' => ∃ v L, o = .returned v ∧ Q v U'.heap L ∧ ReturnedEndW U o U' L rm.cells rm.slots))
    (hZ : Z.Warmed39 s.vm) (wc : (Cond.code y bytes maxL ret).before a0 Z = true) (wz : (Cond.initialized y.cls).before a0 Z = true) (hf : rm.frames + 1 ≤ R.frames) (hl : W + (maxL + 11) + rm.locals ≤ R.locals) (hI : IB Z s.vm []) :
    BackS l R p e below s args y len W (fun A a => a = as' ∧ A.U.heap = h ∧ A.cells + rm.cells ≤ R.cells ∧ A.slots + rm.slots ≤ R.slots)
      (fun A _ v B => ∃ L, Q v B.U.heap L ∧ B.locs = A.locs ++ L ∧ B.cells = A.cells + rm.cells ∧ B.slots = A.slots + rm.slots) :=
  BackS.of_freeW (bytes := bytes) (maxL := maxL) (ret := ret) (E := fun _ _ o t L k n => k = rm.cells ∧ n = rm.slots ∧ ∃ v, o = .returned v ∧ Q v t.heap L) hM hf hl
    (fun m meth c A a Y hp => have hU : Z.Warmed39 A.U.vm := wtrans hZ Y.warmed
      ⟨by show (Cond.and _ .tt).before a A.U = true; rw [Cond.before_and, mv hU wc]; rfl, mv hU wc, mv hU wz, hp.2.2.1, hp.2.2.2⟩)
    (fun m meth c A a g mk Y hp => ⟨hp.1, wtrans hZ Y.warmed, hp.2.1, by
      obtain ⟨more, e1, e2⟩ := hI
      exact ⟨more, Y.warmed.interned_eq.trans e1, e2⟩⟩) (fun _ _ _ _ _ _ _ _ _ => trivial)
    (fun _ _ _ _ ⟨v, L, h1, h2, h3⟩ => ⟨L, _, _, h3, rfl, rfl, v, h1, h2⟩)
    (fun m meth c A a g mk v t L k n Y hp _ _ ⟨e1, e2, v', e3, e4⟩ => by cases e3; subst e1 e2; exact ⟨L, e4, rfl, rfl, rfl⟩)
theorem own_specialI {p : Program} {l : Launch} {e : Env} {R : Room} {s : State} {m : MethodId} {args : Array Value} {below : List Frame} {meth : Method} {c : Code} {T : State} {locs : List Loc} {cells slots : Nat} {Z : State} {a0 : Array Value} {h : Heap}
    {own : String} {index : Nat} {y : MethodName} {bytes : ByteArray} {maxL : Nat} {rm : Room} {W : Nat} {as' : Array Value} {Q : Option Value → Heap → List Loc → Prop}
    (X : Stand p l e R s m args below meth c T locs cells slots) (hx : p.tables.exec = Jvm.exec) (hZ : Z.Warmed39 s.vm) (hy1 : y.name = "<init>") (hown : s.vm.findClass own = some m.cls) (hlink : (Cond.methodLink own index y).before a0 Z = true) (hinst : (Cond.instanceMethod y).before a0 Z = true)
    (hcode : (Cond.code y bytes maxL none).before a0 Z = true) (hinit : (Cond.initialized y.cls).before a0 Z = true) (hy : y.cls ≠ "java/lang/invoke/MethodHandle" ∧ y.cls ≠ "java/lang/invoke/VarHandle")
    (hM : MetFree l y (head1 [Cond.code y bytes maxL none] rm) (fun a U => a = as' ∧ Z.Warmed39 U.vm ∧ U.heap = h ∧ IB Z U.vm []) (fun _ _ _ _ _ => True) (fun _ U o U' => ∃ v L, o = .returned v ∧ Q v U'.heap L ∧ ReturnedEndW U o U' L rm.cells rm.slots))
    (hf : rm.frames + 1 ≤ R.frames) (hl : W + (maxL + 11) + rm.locals ≤ R.locals) (hI : IB Z s.vm []) {g : JFrame} (hg : g.method = m) (hsize : g.locals.size = c.maxLocals) {a : Addr} {argsL rest : List Value} (hlen : ∀ sig, parseMethodDescriptor y.desc = some sig → argsL.length = sig.parameters.length)
    (hstack : g.stack = argsL.reverse ++ .ref a :: rest) (hdg : decode c.code g.pc = .ok (.invokespecial index, 3)) (has : (.ref a :: argsL).toArray = as') (eT : T.heap = h) (hc : cells + rm.cells ≤ R.cells) (hs : slots + rm.slots ≤ R.slots) (hW : 2 * g.monitorRoom + (rest.map fun v => v.category).sum ≤ W := by show 2 * 0 + _ ≤ _; exact Nat.le_of_eq rfl) :
    ∃ (v : Option Value) (T' : State) (L : List Loc), Stand p l e R (s.setVm T'.vm) m args below meth c T' (locs ++ L) (cells + rm.cells) (slots + rm.slots) ∧ s.Since T'.vm T'.heap.size ∧ Q v T'.heap L ∧ ∀ target, Steps p.tables e below (T'.setTop { g with pc := g.pc + 3, stack := v.toList ++ rest }) target → Steps p.tables e below (T.setTop g) target := by
  obtain ⟨v, _, ⟨T3, L3, k3, n3⟩, -, X3, hS3, hgr3, ⟨Lc3, hQ3, l3, y3, z3⟩, st3⟩ := X.specialBackS hx hy1 hown (mvT hZ hlink) (mvT hZ hinst) (mvT hZ hcode) hy (own_backI (W := W) hM hZ hcode hinit hf hl hI) hg hsize (Steps.refl _) hlen hstack hW hdg (fun _ _ => ⟨has, eT, hc, hs⟩)
  dsimp only [Pt.U, Pt.locs, Pt.cells, Pt.slots] at X3 l3 y3 z3 st3 hQ3 hS3
  subst l3 y3 z3
  exact ⟨v, T3, Lc3, X3, hS3, hQ3, fun target k => st3.trans k⟩
def own_c (p : Int32) : Int32 := p.toUInt32.toUInt16.toUInt32.toInt32
theorem own_cr (p : Int32) : 0 ≤ (own_c p).toInt ∧ (own_c p).toInt < 65536 := by
  have h := c_i2c p
  exact ⟨h.2.1, h.2.2⟩
theorem own_nar (x : Int32) (h0 : 0 ≤ x.toInt) (h1 : x.toInt < 65536) : nar .char x = x := by
  show x.toUInt32.toUInt16.toUInt32.toInt32 = x
  have h := c_i2c x
  apply Int32.toInt_inj.mp; omega
theorem own_nc (p : Int32) : nar .char (own_c p) = own_c p := own_nar _ (own_cr p).1 (own_cr p).2
theorem own_fc (p : Int32) : fits .char (.int (own_c p)) = true := by rw [← own_nc]; exact fits_nar_char _
def own_b (x : Int32) : Int32 := nar .byte x.toInt8.toInt32
theorem own_bv (x : Int32) : ((own_b x).toInt - x.toInt) % 256 = 0 ∧ -128 ≤ (own_b x).toInt ∧ (own_b x).toInt < 128 := by
  show ((x.toInt8.toInt32.toInt8.toInt32).toInt - x.toInt) % 256 = 0 ∧ -128 ≤ (x.toInt8.toInt32.toInt8.toInt32).toInt ∧ (x.toInt8.toInt32.toInt8.toInt32).toInt < 128
  have h1 := c_i2b x
  have h2 := c_i2b x.toInt8.toInt32
  omega
def own_lc (x : Int32) : Int32 := nar .char (own_c (x &&& 255))
theorem own_lcv (c : Int32) (h0 : 0 ≤ c.toInt) (h1 : ¬ (255 : Int32) < c) : own_lc (own_b c) = c := by
  have hb := own_bv c
  have hm : (own_b c &&& 255).toInt = (own_b c).toInt % (2 ^ 8 : Nat) := c_mask _ 255 8 (by decide) (by decide)
  rw [Int32.lt_iff_toInt_lt, show (255 : Int32).toInt = 255 from rfl] at h1
  have hc := c_i2c (own_b c &&& 255)
  have e : own_c (own_b c &&& 255) = c := by
    apply Int32.toInt_inj.mp
    show (own_b c &&& 255).toUInt32.toUInt16.toUInt32.toInt32.toInt = c.toInt
    omega
  show nar .char (own_c (own_b c &&& 255)) = c
  rw [own_nc, e]
def own_lo (c : Int32) : Int32 := own_b (c >>> ((0 : Int32) &&& 31))
def own_hi (c : Int32) : Int32 := own_b (c >>> ((8 : Int32) &&& 31))
def own_gc (x y : Int32) : Int32 := nar .char (own_c (((x &&& 255) <<< ((0 : Int32) &&& 31)) ||| ((y &&& 255) <<< ((8 : Int32) &&& 31))))
theorem own_gcv (c : Int32) (h0 : 0 ≤ c.toInt) (h1 : c.toInt < 65536) : own_gc (own_lo c) (own_hi c) = c := by
  have s0 : (c >>> ((0 : Int32) &&& 31)).toInt = c.toInt / (2 ^ 0 : Nat) := c_ishr c 0 0 (by decide)
  have s8 : (c >>> ((8 : Int32) &&& 31)).toInt = c.toInt / (2 ^ 8 : Nat) := c_ishr c 8 8 (by decide)
  have hl := own_bv (c >>> ((0 : Int32) &&& 31))
  have hh := own_bv (c >>> ((8 : Int32) &&& 31))
  have ml : (own_lo c &&& 255).toInt = (own_lo c).toInt % (2 ^ 8 : Nat) := c_mask _ 255 8 (by decide) (by decide)
  have mh : (own_hi c &&& 255).toInt = (own_hi c).toInt % (2 ^ 8 : Nat) := c_mask _ 255 8 (by decide) (by decide)
  have l0 := c_ishl (own_lo c &&& 255) 0 0 (by decide)
  have l8 := c_ishl (own_hi c &&& 255) 8 8 (by decide)
  have el : (own_lo c).toInt = (own_b (c >>> ((0 : Int32) &&& 31))).toInt := rfl
  have eh : (own_hi c).toInt = (own_b (c >>> ((8 : Int32) &&& 31))).toInt := rfl
  have r0 := rng32 ((own_lo c &&& 255) <<< ((0 : Int32) &&& 31))
  have r8 := rng32 ((own_hi c &&& 255) <<< ((8 : Int32) &&& 31))
  generalize ha : (own_lo c &&& 255) <<< ((0 : Int32) &&& 31) = A at *
  generalize hb : (own_hi c &&& 255) <<< ((8 : Int32) &&& 31) = B at *
  have vA : A.toInt = c.toInt % 256 := by omega
  have vB : B.toInt = c.toInt / 256 * 256 := by omega
  have ho := c_or' A B 8 (by decide) 256 (by decide) (by omega) (by omega) (by omega)
  have rO := rng32 (A ||| B)
  have hc := c_i2c (A ||| B)
  have e : own_c (A ||| B) = c := by
    apply Int32.toInt_inj.mp
    show (A ||| B).toUInt32.toUInt16.toUInt32.toInt32.toInt = c.toInt
    omega
  show nar .char (own_c (((own_lo c &&& 255) <<< ((0 : Int32) &&& 31)) ||| ((own_hi c &&& 255) <<< ((8 : Int32) &&& 31)))) = c
  rw [ha, hb, own_nc, e]
theorem own_arne {Z : State} {h : Heap} {a b : Addr} {k : ClassId} {z : Int32} {vs : List Value} {d : Value} {cl : Cell} (A : Arv Z h b k .byte z vs d) (B : Arr Z h a cl .char) : b ≠ a := fun q => by
  subst q
  obtain ⟨c, A', -⟩ := A
  cases A'.1.symm.trans B.1
  obtain ⟨-, k1, h1, c1, e1⟩ := A'.2.1
  obtain ⟨-, k2, h2, c2, e2⟩ := B.2.1
  cases h1.symm.trans h2
  rw [e1] at e2; cases e2
theorem own_cc (p : Int32) : own_c (own_c p) = own_c p := own_nc p
def own_P (p k : Int32) : Int32 := (p &&& 2147483647) - ((p &&& 2147483647) / k) * k
theorem own_Pv (p k : Int32) (hk : 0 < k.toInt) : (own_P p k).toInt = (p &&& 2147483647).toInt % k.toInt := by
  unfold own_P
  rw [irem_eq_mod]
  have h := c_mask p 2147483647 31 (by decide) (by decide)
  exact (c_irem _ k _ rfl).1 (by rw [h]; omega)
theorem own_P5 (p : Int32) : own_P p 5 = 0 ∨ own_P p 5 = 1 ∨ own_P p 5 = 2 ∨ own_P p 5 = 3 ∨ own_P p 5 = 4 := by
  simp only [← Int32.toInt_inj, own_Pv p 5 (by decide), show (0 : Int32).toInt = 0 from rfl, show (1 : Int32).toInt = 1 from rfl, show (2 : Int32).toInt = 2 from rfl, show (3 : Int32).toInt = 3 from rfl, show (4 : Int32).toInt = 4 from rfl, show (5 : Int32).toInt = 5 from rfl]
  omega
def own_bl (c : Int32) : Int32 := if c < 32 then 1 else if c < 127 then (if c = 8232 then 1 else if c = 8233 then 1 else 0) else if 159 < c then (if c = 8232 then 1 else if c = 8233 then 1 else 0) else 1
def own_al (c : Int32) : Int32 := if 32 < c then (if c < 127 then (if c = 8232 then 0 else if c = 8233 then 0 else 1) else if 159 < c then (if c = 8232 then 0 else if c = 8233 then 0 else 1) else 0) else 0
def own_ns : List Int32 → Int32
  | [] => 1
  | c :: r => if c = 32 then 0 else if own_bl c = 0 then own_ns r else 0
theorem own_albl (c : Int32) : own_al c = 0 ↔ c = 32 ∨ ¬ own_bl c = 0 := by
  unfold own_al own_bl
  simp only [Int32.lt_iff_toInt_lt, ← Int32.toInt_inj]
  simp only [show (32 : Int32).toInt = 32 from rfl, show (127 : Int32).toInt = 127 from rfl, show (8232 : Int32).toInt = 8232 from rfl, show (8233 : Int32).toInt = 8233 from rfl, show (159 : Int32).toInt = 159 from rfl]
  repeat' split
  all_goals simp
  all_goals omega
theorem own_step (c : Int32) (r : List Int32) : own_ns (c :: r) = if own_al c = 0 then 0 else own_ns r := by
  show (if c = 32 then 0 else if own_bl c = 0 then own_ns r else 0) = _
  have h := own_albl c
  by_cases h1 : c = 32
  · rw [if_pos h1, if_pos (h.mpr (Or.inl h1))]
  · by_cases h2 : own_bl c = 0
    · rw [if_neg h1, if_pos h2, if_neg (fun q => (h.mp q).elim h1 (fun z => z h2))]
    · rw [if_neg h1, if_neg h2, if_pos (h.mpr (Or.inr h2))]
theorem own_end : own_ns [] = 1 := rfl
theorem d16_0 : decode prog_16_method_6_code 0 = .ok (.iload_n 0, 1) := by decide +kernel
theorem d16_1 : decode prog_16_method_6_code 1 = .ok (.bipush 32, 2) := by decide +kernel
theorem d16_3 : decode prog_16_method_6_code 3 = .ok (.if_icmp .lt 30, 3) := by decide +kernel
theorem d16_6 : decode prog_16_method_6_code 6 = .ok (.iload_n 0, 1) := by decide +kernel
theorem d16_7 : decode prog_16_method_6_code 7 = .ok (.bipush 127, 2) := by decide +kernel
theorem d16_9 : decode prog_16_method_6_code 9 = .ok (.if_icmp .lt 10, 3) := by decide +kernel
theorem d16_12 : decode prog_16_method_6_code 12 = .ok (.iload_n 0, 1) := by decide +kernel
theorem d16_13 : decode prog_16_method_6_code 13 = .ok (.sipush 159, 3) := by decide +kernel
theorem d16_16 : decode prog_16_method_6_code 16 = .ok (.if_icmp .le 17, 3) := by decide +kernel
theorem d16_19 : decode prog_16_method_6_code 19 = .ok (.iload_n 0, 1) := by decide +kernel
theorem d16_20 : decode prog_16_method_6_code 20 = .ok (.sipush 8232, 3) := by decide +kernel
theorem d16_23 : decode prog_16_method_6_code 23 = .ok (.if_icmp .eq 10, 3) := by decide +kernel
theorem d16_26 : decode prog_16_method_6_code 26 = .ok (.iload_n 0, 1) := by decide +kernel
theorem d16_27 : decode prog_16_method_6_code 27 = .ok (.sipush 8233, 3) := by decide +kernel
theorem d16_30 : decode prog_16_method_6_code 30 = .ok (.if_icmp .ne 7, 3) := by decide +kernel
theorem d16_33 : decode prog_16_method_6_code 33 = .ok (.iconst 1, 1) := by decide +kernel
theorem d16_34 : decode prog_16_method_6_code 34 = .ok (.goto 4, 3) := by decide +kernel
theorem d16_37 : decode prog_16_method_6_code 37 = .ok (.iconst 0, 1) := by decide +kernel
theorem d16_38 : decode prog_16_method_6_code 38 = .ok (.ireturn, 1) := by decide +kernel
theorem pn_Diagnostic : plainName "com/example/headwater/headwater/core/Diagnostic" = true := by first | (simp [plainName, overriddenIn]; done) | decide +kernel
def QrmB (Z : State) (p0 : Int32) (h0 : Heap) (n0 : Nat) (v : Option Value) (h : Heap) (L : List Loc) : Prop := v = some (.int (own_bl p0)) ∧ Fr n0 L ∧ h = h0
set_option maxRecDepth 65536 in
set_option maxHeartbeats 40000000 in
theorem rmB (l : Launch) (Z : State) (av0 : Array Value) (hw : ∀ d ∈ tables_1, d.before av0 Z = true) (ws : List Jvm.Cond) (p0 : Int32) (h0 : Heap) (n0 : Nat) (Z0 : n0 ≤ h0.size)  :
    own_Met l mN0 prog_16_method_6_code 1 (some .boolean) ws ({ frames := 0, cells := 0, slots := 0, locals := 0 } : Room) #[(.int p0)] Z h0 (QrmB Z p0 h0 n0) := by
  refine MetFree.of_bodySF (plainFor_of_name pn_Diagnostic) hisR ?_
  intro p e s m args below meth c s₁ Bd hml0 hP hK
  obtain ⟨rfl, hZ, hh⟩ := hP
  have hml : c.maxLocals = 1 := hml0
  obtain ⟨hx, hby, hown, hnm, X0, e0⟩ := own_start Bd hml0 hh
  have N0 := Fr.nil n0
  have pre0 : ∀ t, oS p e below s₁ (mkF m 0 #[iv p0] []) t → Steps p.tables e below (s₁.setTop (entryFrame m #[(.int p0)] 1)) t := fun t k => castTop (by first | (simp [entryFrame, mkF, argsToLocals, Value.category]; done) | rfl) k
  have S1 : ∀ t, oS p e below s₁ (mkF m 3 #[iv p0] [(.int 32), (.int p0)]) t → oS p e below s₁ (mkF m 0 #[iv p0] []) t := fun t k => id (by
    show oS p e below s₁ (mkF m 0 #[iv p0] []) _
    refine XS.iloadN X0.here hx rfl (hb hby d16_0) rfl ?_
    refine XT.bipushV X0.here hx rfl (32 : Int32) (hb hby d16_1) (by decide) ?_
    exact k)
  by_cases hc3_2 : p0 < (32 : Int32)
  · have S3 : ∀ t, oS p e below s₁ (mkF m 38 #[iv p0] [(.int 1)]) t → oS p e below s₁ (mkF m 0 #[iv p0] []) t := fun t k => S1 t (by
      show oS p e below s₁ (mkF m 3 #[iv p0] [(.int 32), (.int p0)]) _
      refine XS.icmpYes X0.here hx rfl (pc0 := 3) (pc' := 33) rfl (hb hby d16_3) rfl (XT.ii_lt_t hc3_2) (by decide) (by decide) ?_
      refine XT.iconstV X0.here hx rfl (1 : Int32) (hb hby d16_33) (by decide) ?_
      refine XS.goto X0.here hx rfl (pc0 := 34) (pc' := 38) rfl (hb hby d16_34) (by decide) (by decide) ?_
      exact k)
    obtain ⟨fs, hr, hrun, hended, hW, hsame⟩ := X0.leave (v := some (.int 1)) (fun h => by rw [Bd.returns] at h; cases h)
    refine ⟨_, _, pre0 _ (S3 _ ?_), hrun, hended, _, _, rfl, ?_, ⟨_, rfl⟩, hW, hsame.mono (by decide) (by decide)⟩
    · exact retN X0 hx (t := .boolean) Bd.returns (by simp) (hb hby d16_38) hr
    · show QrmB Z p0 h0 n0 _ s₁.heap _
      rw [e0]
      exact ⟨by simp [own_bl, hc3_2], N0, rfl⟩
  · have S4 : ∀ t, oS p e below s₁ (mkF m 9 #[iv p0] [(.int 127), (.int p0)]) t → oS p e below s₁ (mkF m 0 #[iv p0] []) t := fun t k => S1 t (by
      show oS p e below s₁ (mkF m 3 #[iv p0] [(.int 32), (.int p0)]) _
      refine XS.icmpNo X0.here hx rfl (hb hby d16_3) rfl (XT.ii_lt_f hc3_2) ?_
      refine XS.iloadN X0.here hx rfl (hb hby d16_6) rfl ?_
      refine XT.bipushV X0.here hx rfl (127 : Int32) (hb hby d16_7) (by decide) ?_
      exact k)
    by_cases hc9_5 : p0 < (127 : Int32)
    · have S6 : ∀ t, oS p e below s₁ (mkF m 23 #[iv p0] [(.int 8232), (.int p0)]) t → oS p e below s₁ (mkF m 0 #[iv p0] []) t := fun t k => S4 t (by
        show oS p e below s₁ (mkF m 9 #[iv p0] [(.int 127), (.int p0)]) _
        refine XS.icmpYes X0.here hx rfl (pc0 := 9) (pc' := 19) rfl (hb hby d16_9) rfl (XT.ii_lt_t hc9_5) (by decide) (by decide) ?_
        refine XS.iloadN X0.here hx rfl (hb hby d16_19) rfl ?_
        refine XT.sipushV X0.here hx rfl (8232 : Int32) (hb hby d16_20) (by decide) ?_
        exact k)
      by_cases hc23_7 : p0 = (8232 : Int32)
      · have S8 : ∀ t, oS p e below s₁ (mkF m 38 #[iv p0] [(.int 1)]) t → oS p e below s₁ (mkF m 0 #[iv p0] []) t := fun t k => S6 t (by
          show oS p e below s₁ (mkF m 23 #[iv p0] [(.int 8232), (.int p0)]) _
          refine XS.icmpYes X0.here hx rfl (pc0 := 23) (pc' := 33) rfl (hb hby d16_23) rfl (XT.ii_eq_t hc23_7) (by decide) (by decide) ?_
          refine XT.iconstV X0.here hx rfl (1 : Int32) (hb hby d16_33) (by decide) ?_
          refine XS.goto X0.here hx rfl (pc0 := 34) (pc' := 38) rfl (hb hby d16_34) (by decide) (by decide) ?_
          exact k)
        obtain ⟨fs, hr, hrun, hended, hW, hsame⟩ := X0.leave (v := some (.int 1)) (fun h => by rw [Bd.returns] at h; cases h)
        refine ⟨_, _, pre0 _ (S8 _ ?_), hrun, hended, _, _, rfl, ?_, ⟨_, rfl⟩, hW, hsame.mono (by decide) (by decide)⟩
        · exact retN X0 hx (t := .boolean) Bd.returns (by simp) (hb hby d16_38) hr
        · show QrmB Z p0 h0 n0 _ s₁.heap _
          rw [e0]
          exact ⟨by simp [own_bl, hc3_2, hc9_5, hc23_7], N0, rfl⟩
      · have S9 : ∀ t, oS p e below s₁ (mkF m 30 #[iv p0] [(.int 8233), (.int p0)]) t → oS p e below s₁ (mkF m 0 #[iv p0] []) t := fun t k => S6 t (by
          show oS p e below s₁ (mkF m 23 #[iv p0] [(.int 8232), (.int p0)]) _
          refine XS.icmpNo X0.here hx rfl (hb hby d16_23) rfl (XT.ii_eq_f hc23_7) ?_
          refine XS.iloadN X0.here hx rfl (hb hby d16_26) rfl ?_
          refine XT.sipushV X0.here hx rfl (8233 : Int32) (hb hby d16_27) (by decide) ?_
          exact k)
        by_cases hc30_10 : p0 = (8233 : Int32)
        · have S11 : ∀ t, oS p e below s₁ (mkF m 38 #[iv p0] [(.int 1)]) t → oS p e below s₁ (mkF m 0 #[iv p0] []) t := fun t k => S9 t (by
            show oS p e below s₁ (mkF m 30 #[iv p0] [(.int 8233), (.int p0)]) _
            refine XS.icmpNo X0.here hx rfl (hb hby d16_30) rfl (XT.ii_ne_f hc30_10) ?_
            refine XT.iconstV X0.here hx rfl (1 : Int32) (hb hby d16_33) (by decide) ?_
            refine XS.goto X0.here hx rfl (pc0 := 34) (pc' := 38) rfl (hb hby d16_34) (by decide) (by decide) ?_
            exact k)
          obtain ⟨fs, hr, hrun, hended, hW, hsame⟩ := X0.leave (v := some (.int 1)) (fun h => by rw [Bd.returns] at h; cases h)
          refine ⟨_, _, pre0 _ (S11 _ ?_), hrun, hended, _, _, rfl, ?_, ⟨_, rfl⟩, hW, hsame.mono (by decide) (by decide)⟩
          · exact retN X0 hx (t := .boolean) Bd.returns (by simp) (hb hby d16_38) hr
          · show QrmB Z p0 h0 n0 _ s₁.heap _
            rw [e0]
            exact ⟨by simp [own_bl, hc3_2, hc9_5, hc23_7, hc30_10], N0, rfl⟩
        · have S12 : ∀ t, oS p e below s₁ (mkF m 38 #[iv p0] [(.int 0)]) t → oS p e below s₁ (mkF m 0 #[iv p0] []) t := fun t k => S9 t (by
            show oS p e below s₁ (mkF m 30 #[iv p0] [(.int 8233), (.int p0)]) _
            refine XS.icmpYes X0.here hx rfl (pc0 := 30) (pc' := 37) rfl (hb hby d16_30) rfl (XT.ii_ne_t hc30_10) (by decide) (by decide) ?_
            refine XT.iconstV X0.here hx rfl (0 : Int32) (hb hby d16_37) (by decide) ?_
            exact k)
          obtain ⟨fs, hr, hrun, hended, hW, hsame⟩ := X0.leave (v := some (.int 0)) (fun h => by rw [Bd.returns] at h; cases h)
          refine ⟨_, _, pre0 _ (S12 _ ?_), hrun, hended, _, _, rfl, ?_, ⟨_, rfl⟩, hW, hsame.mono (by decide) (by decide)⟩
          · exact retN X0 hx (t := .boolean) Bd.returns (by simp) (hb hby d16_38) hr
          · show QrmB Z p0 h0 n0 _ s₁.heap _
            rw [e0]
            exact ⟨by simp [own_bl, hc3_2, hc9_5, hc23_7, hc30_10], N0, rfl⟩
    · have S13 : ∀ t, oS p e below s₁ (mkF m 16 #[iv p0] [(.int 159), (.int p0)]) t → oS p e below s₁ (mkF m 0 #[iv p0] []) t := fun t k => S4 t (by
        show oS p e below s₁ (mkF m 9 #[iv p0] [(.int 127), (.int p0)]) _
        refine XS.icmpNo X0.here hx rfl (hb hby d16_9) rfl (XT.ii_lt_f hc9_5) ?_
        refine XS.iloadN X0.here hx rfl (hb hby d16_12) rfl ?_
        refine XT.sipushV X0.here hx rfl (159 : Int32) (hb hby d16_13) (by decide) ?_
        exact k)
      by_cases hc16_14 : (159 : Int32) < p0
      · have S15 : ∀ t, oS p e below s₁ (mkF m 23 #[iv p0] [(.int 8232), (.int p0)]) t → oS p e below s₁ (mkF m 0 #[iv p0] []) t := fun t k => S13 t (by
          show oS p e below s₁ (mkF m 16 #[iv p0] [(.int 159), (.int p0)]) _
          refine XS.icmpNo X0.here hx rfl (hb hby d16_16) rfl (XT.ii_le_f hc16_14) ?_
          refine XS.iloadN X0.here hx rfl (hb hby d16_19) rfl ?_
          refine XT.sipushV X0.here hx rfl (8232 : Int32) (hb hby d16_20) (by decide) ?_
          exact k)
        by_cases hc23_16 : p0 = (8232 : Int32)
        · have S17 : ∀ t, oS p e below s₁ (mkF m 38 #[iv p0] [(.int 1)]) t → oS p e below s₁ (mkF m 0 #[iv p0] []) t := fun t k => S15 t (by
            show oS p e below s₁ (mkF m 23 #[iv p0] [(.int 8232), (.int p0)]) _
            refine XS.icmpYes X0.here hx rfl (pc0 := 23) (pc' := 33) rfl (hb hby d16_23) rfl (XT.ii_eq_t hc23_16) (by decide) (by decide) ?_
            refine XT.iconstV X0.here hx rfl (1 : Int32) (hb hby d16_33) (by decide) ?_
            refine XS.goto X0.here hx rfl (pc0 := 34) (pc' := 38) rfl (hb hby d16_34) (by decide) (by decide) ?_
            exact k)
          obtain ⟨fs, hr, hrun, hended, hW, hsame⟩ := X0.leave (v := some (.int 1)) (fun h => by rw [Bd.returns] at h; cases h)
          refine ⟨_, _, pre0 _ (S17 _ ?_), hrun, hended, _, _, rfl, ?_, ⟨_, rfl⟩, hW, hsame.mono (by decide) (by decide)⟩
          · exact retN X0 hx (t := .boolean) Bd.returns (by simp) (hb hby d16_38) hr
          · show QrmB Z p0 h0 n0 _ s₁.heap _
            rw [e0]
            exact ⟨by simp [own_bl, hc3_2, hc9_5, hc16_14, hc23_16], N0, rfl⟩
        · have S18 : ∀ t, oS p e below s₁ (mkF m 30 #[iv p0] [(.int 8233), (.int p0)]) t → oS p e below s₁ (mkF m 0 #[iv p0] []) t := fun t k => S15 t (by
            show oS p e below s₁ (mkF m 23 #[iv p0] [(.int 8232), (.int p0)]) _
            refine XS.icmpNo X0.here hx rfl (hb hby d16_23) rfl (XT.ii_eq_f hc23_16) ?_
            refine XS.iloadN X0.here hx rfl (hb hby d16_26) rfl ?_
            refine XT.sipushV X0.here hx rfl (8233 : Int32) (hb hby d16_27) (by decide) ?_
            exact k)
          by_cases hc30_19 : p0 = (8233 : Int32)
          · have S20 : ∀ t, oS p e below s₁ (mkF m 38 #[iv p0] [(.int 1)]) t → oS p e below s₁ (mkF m 0 #[iv p0] []) t := fun t k => S18 t (by
              show oS p e below s₁ (mkF m 30 #[iv p0] [(.int 8233), (.int p0)]) _
              refine XS.icmpNo X0.here hx rfl (hb hby d16_30) rfl (XT.ii_ne_f hc30_19) ?_
              refine XT.iconstV X0.here hx rfl (1 : Int32) (hb hby d16_33) (by decide) ?_
              refine XS.goto X0.here hx rfl (pc0 := 34) (pc' := 38) rfl (hb hby d16_34) (by decide) (by decide) ?_
              exact k)
            obtain ⟨fs, hr, hrun, hended, hW, hsame⟩ := X0.leave (v := some (.int 1)) (fun h => by rw [Bd.returns] at h; cases h)
            refine ⟨_, _, pre0 _ (S20 _ ?_), hrun, hended, _, _, rfl, ?_, ⟨_, rfl⟩, hW, hsame.mono (by decide) (by decide)⟩
            · exact retN X0 hx (t := .boolean) Bd.returns (by simp) (hb hby d16_38) hr
            · show QrmB Z p0 h0 n0 _ s₁.heap _
              rw [e0]
              exact ⟨by simp [own_bl, hc3_2, hc9_5, hc16_14, hc23_16, hc30_19], N0, rfl⟩
          · have S21 : ∀ t, oS p e below s₁ (mkF m 38 #[iv p0] [(.int 0)]) t → oS p e below s₁ (mkF m 0 #[iv p0] []) t := fun t k => S18 t (by
              show oS p e below s₁ (mkF m 30 #[iv p0] [(.int 8233), (.int p0)]) _
              refine XS.icmpYes X0.here hx rfl (pc0 := 30) (pc' := 37) rfl (hb hby d16_30) rfl (XT.ii_ne_t hc30_19) (by decide) (by decide) ?_
              refine XT.iconstV X0.here hx rfl (0 : Int32) (hb hby d16_37) (by decide) ?_
              exact k)
            obtain ⟨fs, hr, hrun, hended, hW, hsame⟩ := X0.leave (v := some (.int 0)) (fun h => by rw [Bd.returns] at h; cases h)
            refine ⟨_, _, pre0 _ (S21 _ ?_), hrun, hended, _, _, rfl, ?_, ⟨_, rfl⟩, hW, hsame.mono (by decide) (by decide)⟩
            · exact retN X0 hx (t := .boolean) Bd.returns (by simp) (hb hby d16_38) hr
            · show QrmB Z p0 h0 n0 _ s₁.heap _
              rw [e0]
              exact ⟨by simp [own_bl, hc3_2, hc9_5, hc16_14, hc23_16, hc30_19], N0, rfl⟩
      · have S22 : ∀ t, oS p e below s₁ (mkF m 38 #[iv p0] [(.int 1)]) t → oS p e below s₁ (mkF m 0 #[iv p0] []) t := fun t k => S13 t (by
          show oS p e below s₁ (mkF m 16 #[iv p0] [(.int 159), (.int p0)]) _
          refine XS.icmpYes X0.here hx rfl (pc0 := 16) (pc' := 33) rfl (hb hby d16_16) rfl (XT.ii_le_t hc16_14) (by decide) (by decide) ?_
          refine XT.iconstV X0.here hx rfl (1 : Int32) (hb hby d16_33) (by decide) ?_
          refine XS.goto X0.here hx rfl (pc0 := 34) (pc' := 38) rfl (hb hby d16_34) (by decide) (by decide) ?_
          exact k)
        obtain ⟨fs, hr, hrun, hended, hW, hsame⟩ := X0.leave (v := some (.int 1)) (fun h => by rw [Bd.returns] at h; cases h)
        refine ⟨_, _, pre0 _ (S22 _ ?_), hrun, hended, _, _, rfl, ?_, ⟨_, rfl⟩, hW, hsame.mono (by decide) (by decide)⟩
        · exact retN X0 hx (t := .boolean) Bd.returns (by simp) (hb hby d16_38) hr
        · show QrmB Z p0 h0 n0 _ s₁.heap _
          rw [e0]
          exact ⟨by simp [own_bl, hc3_2, hc9_5, hc16_14], N0, rfl⟩
theorem d10_0 : decode method_3_code 0 = .ok (.iload_n 0, 1) := by decide +kernel
theorem d10_1 : decode method_3_code 1 = .ok (.istore_n 1, 1) := by decide +kernel
theorem d10_2 : decode method_3_code 2 = .ok (.iload_n 1, 1) := by decide +kernel
theorem d10_3 : decode method_3_code 3 = .ok (.bipush 32, 2) := by decide +kernel
theorem d10_5 : decode method_3_code 5 = .ok (.if_icmp .gt 5, 3) := by decide +kernel
theorem d10_8 : decode method_3_code 8 = .ok (.iconst 0, 1) := by decide +kernel
theorem d10_9 : decode method_3_code 9 = .ok (.ireturn, 1) := by decide +kernel
theorem d10_10 : decode method_3_code 10 = .ok (.iload_n 1, 1) := by decide +kernel
theorem d10_11 : decode method_3_code 11 = .ok (.bipush 127, 2) := by decide +kernel
theorem d10_13 : decode method_3_code 13 = .ok (.if_icmp .lt 12, 3) := by decide +kernel
theorem d10_16 : decode method_3_code 16 = .ok (.iload_n 1, 1) := by decide +kernel
theorem d10_17 : decode method_3_code 17 = .ok (.sipush 159, 3) := by decide +kernel
theorem d10_20 : decode method_3_code 20 = .ok (.if_icmp .gt 5, 3) := by decide +kernel
theorem d10_23 : decode method_3_code 23 = .ok (.iconst 0, 1) := by decide +kernel
theorem d10_24 : decode method_3_code 24 = .ok (.ireturn, 1) := by decide +kernel
theorem d10_25 : decode method_3_code 25 = .ok (.iload_n 1, 1) := by decide +kernel
theorem d10_26 : decode method_3_code 26 = .ok (.sipush 8232, 3) := by decide +kernel
theorem d10_29 : decode method_3_code 29 = .ok (.if_icmp .eq 10, 3) := by decide +kernel
theorem d10_32 : decode method_3_code 32 = .ok (.iload_n 1, 1) := by decide +kernel
theorem d10_33 : decode method_3_code 33 = .ok (.sipush 8233, 3) := by decide +kernel
theorem d10_36 : decode method_3_code 36 = .ok (.if_icmp .ne 5, 3) := by decide +kernel
theorem d10_39 : decode method_3_code 39 = .ok (.iconst 0, 1) := by decide +kernel
theorem d10_40 : decode method_3_code 40 = .ok (.ireturn, 1) := by decide +kernel
theorem d10_41 : decode method_3_code 41 = .ok (.iconst 1, 1) := by decide +kernel
theorem d10_42 : decode method_3_code 42 = .ok (.ireturn, 1) := by decide +kernel
theorem pn_XsNamesIsNamespaceNamePinLaw : plainName "com/example/headwater/headwater/core/XsNamesIsNamespaceNamePinLaw" = true := by first | (simp [plainName, overriddenIn]; done) | decide +kernel
def QrmA (Z : State) (p0 : Int32) (h0 : Heap) (n0 : Nat) (v : Option Value) (h : Heap) (L : List Loc) : Prop := v = some (.int (own_al p0)) ∧ Fr n0 L ∧ h = h0
set_option maxRecDepth 65536 in
set_option maxHeartbeats 40000000 in
theorem rmA (l : Launch) (Z : State) (av0 : Array Value) (hw : ∀ d ∈ tables_1, d.before av0 Z = true) (ws : List Jvm.Cond) (p0 : Int32) (h0 : Heap) (n0 : Nat) (Z0 : n0 ≤ h0.size)  :
    own_Met l mN1 method_3_code 2 (some .boolean) ws ({ frames := 0, cells := 0, slots := 0, locals := 0 } : Room) #[(.int p0)] Z h0 (QrmA Z p0 h0 n0) := by
  refine MetFree.of_bodySF (plainFor_of_name pn_XsNamesIsNamespaceNamePinLaw) hisR ?_
  intro p e s m args below meth c s₁ Bd hml0 hP hK
  obtain ⟨rfl, hZ, hh⟩ := hP
  have hml : c.maxLocals = 2 := hml0
  obtain ⟨hx, hby, hown, hnm, X0, e0⟩ := own_start Bd hml0 hh
  have N0 := Fr.nil n0
  have pre0 : ∀ t, oS p e below s₁ (mkF m 0 #[iv p0, .unset] []) t → Steps p.tables e below (s₁.setTop (entryFrame m #[(.int p0)] 2)) t := fun t k => castTop (by first | (simp [entryFrame, mkF, argsToLocals, Value.category]; done) | rfl) k
  have S1 : ∀ t, oS p e below s₁ (mkF m 5 #[iv p0, iv p0] [(.int 32), (.int p0)]) t → oS p e below s₁ (mkF m 0 #[iv p0, .unset] []) t := fun t k => id (by
    show oS p e below s₁ (mkF m 0 #[iv p0, .unset] []) _
    refine XS.iloadN X0.here hx rfl (hb hby d10_0) rfl ?_
    refine XS.istoreN X0.here hx rfl (hb hby d10_1) rfl (l' := #[iv p0, iv p0]) rfl ?_
    refine XS.iloadN X0.here hx rfl (hb hby d10_2) rfl ?_
    refine XT.bipushV X0.here hx rfl (32 : Int32) (hb hby d10_3) (by decide) ?_
    exact k)
  by_cases hc5_2 : (32 : Int32) < p0
  · have S3 : ∀ t, oS p e below s₁ (mkF m 13 #[iv p0, iv p0] [(.int 127), (.int p0)]) t → oS p e below s₁ (mkF m 0 #[iv p0, .unset] []) t := fun t k => S1 t (by
      show oS p e below s₁ (mkF m 5 #[iv p0, iv p0] [(.int 32), (.int p0)]) _
      refine XS.icmpYes X0.here hx rfl (pc0 := 5) (pc' := 10) rfl (hb hby d10_5) rfl (XT.ii_gt_t hc5_2) (by decide) (by decide) ?_
      refine XS.iloadN X0.here hx rfl (hb hby d10_10) rfl ?_
      refine XT.bipushV X0.here hx rfl (127 : Int32) (hb hby d10_11) (by decide) ?_
      exact k)
    by_cases hc13_4 : p0 < (127 : Int32)
    · have S5 : ∀ t, oS p e below s₁ (mkF m 29 #[iv p0, iv p0] [(.int 8232), (.int p0)]) t → oS p e below s₁ (mkF m 0 #[iv p0, .unset] []) t := fun t k => S3 t (by
        show oS p e below s₁ (mkF m 13 #[iv p0, iv p0] [(.int 127), (.int p0)]) _
        refine XS.icmpYes X0.here hx rfl (pc0 := 13) (pc' := 25) rfl (hb hby d10_13) rfl (XT.ii_lt_t hc13_4) (by decide) (by decide) ?_
        refine XS.iloadN X0.here hx rfl (hb hby d10_25) rfl ?_
        refine XT.sipushV X0.here hx rfl (8232 : Int32) (hb hby d10_26) (by decide) ?_
        exact k)
      by_cases hc29_6 : p0 = (8232 : Int32)
      · have S7 : ∀ t, oS p e below s₁ (mkF m 40 #[iv p0, iv p0] [(.int 0)]) t → oS p e below s₁ (mkF m 0 #[iv p0, .unset] []) t := fun t k => S5 t (by
          show oS p e below s₁ (mkF m 29 #[iv p0, iv p0] [(.int 8232), (.int p0)]) _
          refine XS.icmpYes X0.here hx rfl (pc0 := 29) (pc' := 39) rfl (hb hby d10_29) rfl (XT.ii_eq_t hc29_6) (by decide) (by decide) ?_
          refine XT.iconstV X0.here hx rfl (0 : Int32) (hb hby d10_39) (by decide) ?_
          exact k)
        obtain ⟨fs, hr, hrun, hended, hW, hsame⟩ := X0.leave (v := some (.int 0)) (fun h => by rw [Bd.returns] at h; cases h)
        refine ⟨_, _, pre0 _ (S7 _ ?_), hrun, hended, _, _, rfl, ?_, ⟨_, rfl⟩, hW, hsame.mono (by decide) (by decide)⟩
        · exact retN X0 hx (t := .boolean) Bd.returns (by simp) (hb hby d10_40) hr
        · show QrmA Z p0 h0 n0 _ s₁.heap _
          rw [e0]
          exact ⟨by simp [own_al, hc5_2, hc13_4, hc29_6], N0, rfl⟩
      · have S8 : ∀ t, oS p e below s₁ (mkF m 36 #[iv p0, iv p0] [(.int 8233), (.int p0)]) t → oS p e below s₁ (mkF m 0 #[iv p0, .unset] []) t := fun t k => S5 t (by
          show oS p e below s₁ (mkF m 29 #[iv p0, iv p0] [(.int 8232), (.int p0)]) _
          refine XS.icmpNo X0.here hx rfl (hb hby d10_29) rfl (XT.ii_eq_f hc29_6) ?_
          refine XS.iloadN X0.here hx rfl (hb hby d10_32) rfl ?_
          refine XT.sipushV X0.here hx rfl (8233 : Int32) (hb hby d10_33) (by decide) ?_
          exact k)
        by_cases hc36_9 : p0 = (8233 : Int32)
        · have S10 : ∀ t, oS p e below s₁ (mkF m 40 #[iv p0, iv p0] [(.int 0)]) t → oS p e below s₁ (mkF m 0 #[iv p0, .unset] []) t := fun t k => S8 t (by
            show oS p e below s₁ (mkF m 36 #[iv p0, iv p0] [(.int 8233), (.int p0)]) _
            refine XS.icmpNo X0.here hx rfl (hb hby d10_36) rfl (XT.ii_ne_f hc36_9) ?_
            refine XT.iconstV X0.here hx rfl (0 : Int32) (hb hby d10_39) (by decide) ?_
            exact k)
          obtain ⟨fs, hr, hrun, hended, hW, hsame⟩ := X0.leave (v := some (.int 0)) (fun h => by rw [Bd.returns] at h; cases h)
          refine ⟨_, _, pre0 _ (S10 _ ?_), hrun, hended, _, _, rfl, ?_, ⟨_, rfl⟩, hW, hsame.mono (by decide) (by decide)⟩
          · exact retN X0 hx (t := .boolean) Bd.returns (by simp) (hb hby d10_40) hr
          · show QrmA Z p0 h0 n0 _ s₁.heap _
            rw [e0]
            exact ⟨by simp [own_al, hc5_2, hc13_4, hc29_6, hc36_9], N0, rfl⟩
        · have S11 : ∀ t, oS p e below s₁ (mkF m 42 #[iv p0, iv p0] [(.int 1)]) t → oS p e below s₁ (mkF m 0 #[iv p0, .unset] []) t := fun t k => S8 t (by
            show oS p e below s₁ (mkF m 36 #[iv p0, iv p0] [(.int 8233), (.int p0)]) _
            refine XS.icmpYes X0.here hx rfl (pc0 := 36) (pc' := 41) rfl (hb hby d10_36) rfl (XT.ii_ne_t hc36_9) (by decide) (by decide) ?_
            refine XT.iconstV X0.here hx rfl (1 : Int32) (hb hby d10_41) (by decide) ?_
            exact k)
          obtain ⟨fs, hr, hrun, hended, hW, hsame⟩ := X0.leave (v := some (.int 1)) (fun h => by rw [Bd.returns] at h; cases h)
          refine ⟨_, _, pre0 _ (S11 _ ?_), hrun, hended, _, _, rfl, ?_, ⟨_, rfl⟩, hW, hsame.mono (by decide) (by decide)⟩
          · exact retN X0 hx (t := .boolean) Bd.returns (by simp) (hb hby d10_42) hr
          · show QrmA Z p0 h0 n0 _ s₁.heap _
            rw [e0]
            exact ⟨by simp [own_al, hc5_2, hc13_4, hc29_6, hc36_9], N0, rfl⟩
    · have S12 : ∀ t, oS p e below s₁ (mkF m 20 #[iv p0, iv p0] [(.int 159), (.int p0)]) t → oS p e below s₁ (mkF m 0 #[iv p0, .unset] []) t := fun t k => S3 t (by
        show oS p e below s₁ (mkF m 13 #[iv p0, iv p0] [(.int 127), (.int p0)]) _
        refine XS.icmpNo X0.here hx rfl (hb hby d10_13) rfl (XT.ii_lt_f hc13_4) ?_
        refine XS.iloadN X0.here hx rfl (hb hby d10_16) rfl ?_
        refine XT.sipushV X0.here hx rfl (159 : Int32) (hb hby d10_17) (by decide) ?_
        exact k)
      by_cases hc20_13 : (159 : Int32) < p0
      · have S14 : ∀ t, oS p e below s₁ (mkF m 29 #[iv p0, iv p0] [(.int 8232), (.int p0)]) t → oS p e below s₁ (mkF m 0 #[iv p0, .unset] []) t := fun t k => S12 t (by
          show oS p e below s₁ (mkF m 20 #[iv p0, iv p0] [(.int 159), (.int p0)]) _
          refine XS.icmpYes X0.here hx rfl (pc0 := 20) (pc' := 25) rfl (hb hby d10_20) rfl (XT.ii_gt_t hc20_13) (by decide) (by decide) ?_
          refine XS.iloadN X0.here hx rfl (hb hby d10_25) rfl ?_
          refine XT.sipushV X0.here hx rfl (8232 : Int32) (hb hby d10_26) (by decide) ?_
          exact k)
        by_cases hc29_15 : p0 = (8232 : Int32)
        · have S16 : ∀ t, oS p e below s₁ (mkF m 40 #[iv p0, iv p0] [(.int 0)]) t → oS p e below s₁ (mkF m 0 #[iv p0, .unset] []) t := fun t k => S14 t (by
            show oS p e below s₁ (mkF m 29 #[iv p0, iv p0] [(.int 8232), (.int p0)]) _
            refine XS.icmpYes X0.here hx rfl (pc0 := 29) (pc' := 39) rfl (hb hby d10_29) rfl (XT.ii_eq_t hc29_15) (by decide) (by decide) ?_
            refine XT.iconstV X0.here hx rfl (0 : Int32) (hb hby d10_39) (by decide) ?_
            exact k)
          obtain ⟨fs, hr, hrun, hended, hW, hsame⟩ := X0.leave (v := some (.int 0)) (fun h => by rw [Bd.returns] at h; cases h)
          refine ⟨_, _, pre0 _ (S16 _ ?_), hrun, hended, _, _, rfl, ?_, ⟨_, rfl⟩, hW, hsame.mono (by decide) (by decide)⟩
          · exact retN X0 hx (t := .boolean) Bd.returns (by simp) (hb hby d10_40) hr
          · show QrmA Z p0 h0 n0 _ s₁.heap _
            rw [e0]
            exact ⟨by simp [own_al, hc5_2, hc13_4, hc20_13, hc29_15], N0, rfl⟩
        · have S17 : ∀ t, oS p e below s₁ (mkF m 36 #[iv p0, iv p0] [(.int 8233), (.int p0)]) t → oS p e below s₁ (mkF m 0 #[iv p0, .unset] []) t := fun t k => S14 t (by
            show oS p e below s₁ (mkF m 29 #[iv p0, iv p0] [(.int 8232), (.int p0)]) _
            refine XS.icmpNo X0.here hx rfl (hb hby d10_29) rfl (XT.ii_eq_f hc29_15) ?_
            refine XS.iloadN X0.here hx rfl (hb hby d10_32) rfl ?_
            refine XT.sipushV X0.here hx rfl (8233 : Int32) (hb hby d10_33) (by decide) ?_
            exact k)
          by_cases hc36_18 : p0 = (8233 : Int32)
          · have S19 : ∀ t, oS p e below s₁ (mkF m 40 #[iv p0, iv p0] [(.int 0)]) t → oS p e below s₁ (mkF m 0 #[iv p0, .unset] []) t := fun t k => S17 t (by
              show oS p e below s₁ (mkF m 36 #[iv p0, iv p0] [(.int 8233), (.int p0)]) _
              refine XS.icmpNo X0.here hx rfl (hb hby d10_36) rfl (XT.ii_ne_f hc36_18) ?_
              refine XT.iconstV X0.here hx rfl (0 : Int32) (hb hby d10_39) (by decide) ?_
              exact k)
            obtain ⟨fs, hr, hrun, hended, hW, hsame⟩ := X0.leave (v := some (.int 0)) (fun h => by rw [Bd.returns] at h; cases h)
            refine ⟨_, _, pre0 _ (S19 _ ?_), hrun, hended, _, _, rfl, ?_, ⟨_, rfl⟩, hW, hsame.mono (by decide) (by decide)⟩
            · exact retN X0 hx (t := .boolean) Bd.returns (by simp) (hb hby d10_40) hr
            · show QrmA Z p0 h0 n0 _ s₁.heap _
              rw [e0]
              exact ⟨by simp [own_al, hc5_2, hc13_4, hc20_13, hc29_15, hc36_18], N0, rfl⟩
          · have S20 : ∀ t, oS p e below s₁ (mkF m 42 #[iv p0, iv p0] [(.int 1)]) t → oS p e below s₁ (mkF m 0 #[iv p0, .unset] []) t := fun t k => S17 t (by
              show oS p e below s₁ (mkF m 36 #[iv p0, iv p0] [(.int 8233), (.int p0)]) _
              refine XS.icmpYes X0.here hx rfl (pc0 := 36) (pc' := 41) rfl (hb hby d10_36) rfl (XT.ii_ne_t hc36_18) (by decide) (by decide) ?_
              refine XT.iconstV X0.here hx rfl (1 : Int32) (hb hby d10_41) (by decide) ?_
              exact k)
            obtain ⟨fs, hr, hrun, hended, hW, hsame⟩ := X0.leave (v := some (.int 1)) (fun h => by rw [Bd.returns] at h; cases h)
            refine ⟨_, _, pre0 _ (S20 _ ?_), hrun, hended, _, _, rfl, ?_, ⟨_, rfl⟩, hW, hsame.mono (by decide) (by decide)⟩
            · exact retN X0 hx (t := .boolean) Bd.returns (by simp) (hb hby d10_42) hr
            · show QrmA Z p0 h0 n0 _ s₁.heap _
              rw [e0]
              exact ⟨by simp [own_al, hc5_2, hc13_4, hc20_13, hc29_15, hc36_18], N0, rfl⟩
      · have S21 : ∀ t, oS p e below s₁ (mkF m 24 #[iv p0, iv p0] [(.int 0)]) t → oS p e below s₁ (mkF m 0 #[iv p0, .unset] []) t := fun t k => S12 t (by
          show oS p e below s₁ (mkF m 20 #[iv p0, iv p0] [(.int 159), (.int p0)]) _
          refine XS.icmpNo X0.here hx rfl (hb hby d10_20) rfl (XT.ii_gt_f hc20_13) ?_
          refine XT.iconstV X0.here hx rfl (0 : Int32) (hb hby d10_23) (by decide) ?_
          exact k)
        obtain ⟨fs, hr, hrun, hended, hW, hsame⟩ := X0.leave (v := some (.int 0)) (fun h => by rw [Bd.returns] at h; cases h)
        refine ⟨_, _, pre0 _ (S21 _ ?_), hrun, hended, _, _, rfl, ?_, ⟨_, rfl⟩, hW, hsame.mono (by decide) (by decide)⟩
        · exact retN X0 hx (t := .boolean) Bd.returns (by simp) (hb hby d10_24) hr
        · show QrmA Z p0 h0 n0 _ s₁.heap _
          rw [e0]
          exact ⟨by simp [own_al, hc5_2, hc13_4, hc20_13], N0, rfl⟩
  · have S22 : ∀ t, oS p e below s₁ (mkF m 9 #[iv p0, iv p0] [(.int 0)]) t → oS p e below s₁ (mkF m 0 #[iv p0, .unset] []) t := fun t k => S1 t (by
      show oS p e below s₁ (mkF m 5 #[iv p0, iv p0] [(.int 32), (.int p0)]) _
      refine XS.icmpNo X0.here hx rfl (hb hby d10_5) rfl (XT.ii_gt_f hc5_2) ?_
      refine XT.iconstV X0.here hx rfl (0 : Int32) (hb hby d10_8) (by decide) ?_
      exact k)
    obtain ⟨fs, hr, hrun, hended, hW, hsame⟩ := X0.leave (v := some (.int 0)) (fun h => by rw [Bd.returns] at h; cases h)
    refine ⟨_, _, pre0 _ (S22 _ ?_), hrun, hended, _, _, rfl, ?_, ⟨_, rfl⟩, hW, hsame.mono (by decide) (by decide)⟩
    · exact retN X0 hx (t := .boolean) Bd.returns (by simp) (hb hby d10_9) hr
    · show QrmA Z p0 h0 n0 _ s₁.heap _
      rw [e0]
      exact ⟨by simp [own_al, hc5_2], N0, rfl⟩
theorem d2_0 : decode jdk_42_method_149_code 0 = .ok (.aload_n 0, 1) := by decide +kernel
theorem d2_1 : decode jdk_42_method_149_code 1 = .ok (.invokespecial 1, 3) := by decide +kernel
theorem d2_4 : decode jdk_42_method_149_code 4 = .ok (.iload_n 3, 1) := by decide +kernel
theorem d2_5 : decode jdk_42_method_149_code 5 = .ok (.ifCond .ne 22, 3) := by decide +kernel
theorem d2_8 : decode jdk_42_method_149_code 8 = .ok (.aload_n 0, 1) := by decide +kernel
theorem d2_9 : decode jdk_42_method_149_code 9 = .ok (.ldc 7, 2) := by decide +kernel
theorem d2_11 : decode jdk_42_method_149_code 11 = .ok (.getfield 9, 3) := by decide +kernel
theorem d2_14 : decode jdk_42_method_149_code 14 = .ok (.putfield 9, 3) := by decide +kernel
theorem d2_17 : decode jdk_42_method_149_code 17 = .ok (.aload_n 0, 1) := by decide +kernel
theorem d2_18 : decode jdk_42_method_149_code 18 = .ok (.ldc 7, 2) := by decide +kernel
theorem d2_20 : decode jdk_42_method_149_code 20 = .ok (.getfield 15, 3) := by decide +kernel
theorem d2_23 : decode jdk_42_method_149_code 23 = .ok (.putfield 15, 3) := by decide +kernel
theorem d2_26 : decode jdk_42_method_149_code 26 = .ok (.return_, 1) := by decide +kernel
theorem pn_String : plainName "java/lang/String" = true := by first | (simp [plainName, overriddenIn]; done) | decide +kernel
def QrmSi4_e (Z : State) (a0 : Addr) (a1 : Addr) (ka : ClassId) (h0 : Heap) (n0 : Nat) (v : Option Value) (h : Heap) (L : List Loc) : Prop := v = none ∧ Fr n0 L ∧ Keep h0 h [a0] ∧ Fld Z h a0 "java/lang/String" "coder" "B" (.int (0 : Int32)) ∧ ∃ (b : Addr) (k : ClassId), Fld Z h a0 "java/lang/String" "value" "[B" (.ref b) ∧ Arv Z h b k .byte (0 : Int32) [] (.int 0)
set_option maxRecDepth 65536 in
set_option maxHeartbeats 40000000 in
theorem rmSi4_e (l : Launch) (Z : State) (av0 : Array Value) (hw : ∀ d ∈ tables_1, d.before av0 Z = true) (ws : List Jvm.Cond) (a0 : Addr) (a1 : Addr) (ka : ClassId) (h0 : Heap) (n0 : Nat) (Z0 : n0 ≤ h0.size) (hE : Exa Z h0 a0 "java/lang/String") (hV : Fld Z h0 a0 "java/lang/String" "value" "[B" .null) (hC : Fld Z h0 a0 "java/lang/String" "coder" "B" (.int (0 : Int32))) (hge : n0 ≤ a0) (hA : Arv Z h0 a1 ka .char (0 : Int32) [] (.int (0 : Int32))) (hkp : ∀ (b : Addr) (cl : Cell), Z.heap[b]? = some cl → h0[b]? = some cl) (hcH : Jvm.Lit.constHeld Z "java/lang/String" 7) (hcw : Jvm.Lit.compactW.before av0 Z = true) :
    MetFree l mN2 (head1 (Jvm.Cond.code mN2 jdk_42_method_149_code 6 none :: ws) ({ frames := 1, cells := 2, slots := 4, locals := 12 } : Room)) (fun aU U => aU = #[(.ref a0), (.ref a1), (.int 0), (.int 0), .null] ∧ Z.Warmed39 U.vm ∧ U.heap = h0 ∧ IB Z U.vm []) (fun _ _ _ _ _ => True) (fun _ U oU U' => ∃ vU LU, oU = .returned vU ∧ QrmSi4_e Z a0 a1 ka h0 n0 vU U'.heap LU ∧ ReturnedEndW U oU U' LU ({ frames := 1, cells := 2, slots := 4, locals := 12 } : Room).cells ({ frames := 1, cells := 2, slots := 4, locals := 12 } : Room).slots) := by
  refine MetFree.of_bodySF (plainFor_of_name pn_String) hisR ?_
  intro p e s m args below meth c s₁ Bd hml0 hP hK
  obtain ⟨rfl, hZ, hh, hI⟩ := hP
  have hml : c.maxLocals = 6 := hml0
  obtain ⟨hx, hby, hown, hnm, X0, e0⟩ := own_start Bd hml0 hh
  have N0 := Fr.nil n0
  have pre0 : ∀ t, oS p e below s₁ (mkF m 0 #[rv a0, rv a1, iv 0, iv 0, .val .null, .unset] []) t → Steps p.tables e below (s₁.setTop (entryFrame m #[(.ref a0), (.ref a1), (.int 0), (.int 0), .null] 6)) t := fun t k => castTop (by first | (simp [entryFrame, mkF, argsToLocals, Value.category]; done) | rfl) k
  obtain ⟨T1, X1, e1, st1⟩ := initO X0 hx hZ hown (hw _ (own_w 12 rfl)) (hw _ (own_w 13 rfl)) (hw _ (own_w 14 rfl)) e0 (g := (mkF m 1 #[rv a0, rv a1, iv 0, iv 0, .val .null, .unset] [(.ref a0)])) rfl (by rw [hml]; rfl) rfl (hb hby d2_1) (by decide) (W := 0) (by show 2 * 0 + _ ≤ _; exact Nat.le_of_eq rfl) (by decide)
  have S3 : ∀ t, oS p e below T1 (mkF m 9 #[rv a0, rv a1, iv 0, iv 0, .val .null, .unset] [(.ref a0)]) t → oS p e below s₁ (mkF m 0 #[rv a0, rv a1, iv 0, iv 0, .val .null, .unset] []) t := fun t k => id (by
    show oS p e below s₁ (mkF m 0 #[rv a0, rv a1, iv 0, iv 0, .val .null, .unset] []) _
    refine XS.aloadN X0.here hx rfl (hb hby d2_0) rfl rfl ?_
    refine st1 _ ?_
    refine XS.iloadN X1.here hx rfl (hb hby d2_4) rfl ?_
    refine XS.ifNo X1.here hx rfl (hb hby d2_5) rfl (XT.i0_ne_f (by decide)) ?_
    refine XS.aloadN X1.here hx rfl (hb hby d2_8) rfl rfl ?_
    exact k)
  obtain ⟨a2, T2, h2, ks2, b2, k2, X2, e2, E2, hS2, hk2, hZ, hown, Ea2, Fc2, Fv2, Av2, la2, lb2, I2, Li2, st2⟩ := ldcSVL (s := s) (vm0 := s.vm) (show Stand p l e _ (s.setVm s.vm) m _ below meth c _ _ _ _ from X1) hx hZ hown (hw _ (own_w 15 rfl)) (own_wS hw) e1 (k0 := 0) ((State.WarmedH.refl s).since 0) (Nat.zero_le _) (Fr.nil _) (fun b cl q => by rw [hh]; exact hkp b cl q) hI (by simp) hcH hcw (vs := []) (z := (0 : Int32)) ⟨by decide, rfl⟩ (by decide) rfl (g := (mkF m 9 #[rv a0, rv a1, iv 0, iv 0, .val .null, .unset] [(.ref a0)])) rfl (hb hby d2_9) (n := 0) (by decide) (by decide) (by decide) (by decide)
  have Z2 : n0 ≤ h2.size := Nat.le_trans Z0 E2.1
  have K2 : Keep h0 h2 [a0] := (Keep.refl h0 [a0]).ext E2
  have f4 := (hV.ext E2)
  have ne_a0_a2 : a0 ≠ a2 := Fld.ne f4 Fv2 (by nofun)
  have f5 := (hE.ext E2)
  have ne_a0_b2 : a0 ≠ b2 := f5.neArv Av2 (hw _ (own_w 3 rfl))
  obtain ⟨T6, X6, e6, st6⟩ := getF X2 hx hZ hown (host := "") (Or.inl (hw _ (own_w 21 rfl))) Via.refl e2 Fv2 (g := (mkF m 11 #[rv a0, rv a1, iv 0, iv 0, .val .null, .unset] [(.ref a2), (.ref a0)])) rfl rfl (hb hby d2_11)
  obtain ⟨T7, h7, X7, e7, W7, st7⟩ := putF X6 hx hZ hown (host := "") (Or.inl (hw _ (own_w 21 rfl))) Via.refl e6 f4 f5 (Or.inr ⟨(hw _ (own_w 17 rfl)), rfl, hnm⟩) (hw _ (own_w 3 rfl)) (ty := (.array .byte)) (by decide) rfl rfl (g := (mkF m 14 #[rv a0, rv a1, iv 0, iv 0, .val .null, .unset] [(.ref b2), (.ref a0)])) rfl rfl (hb hby d2_14)
  have N7 := Fr.snoc X7 N0 hge
  have Z7 : n0 ≤ h7.size := Nat.le_trans Z2 (Nat.le_of_eq W7.size.symm)
  have K7 : Keep h0 h7 [a0] := K2.wr W7 (Or.inl (List.mem_of_getElem? (i := 0) rfl))
  have Fw7 := f4.same W7
  have f9 := (Fc2.other W7 (Or.inl (Ne.symm ne_a0_a2)))
  obtain ⟨T10, X10, e10, st10⟩ := getF X7 hx hZ hown (host := "") (Or.inl (hw _ (own_w 22 rfl))) Via.refl e7 f9 (g := (mkF m 20 #[rv a0, rv a1, iv 0, iv 0, .val .null, .unset] [(.ref a2), (.ref a0)])) rfl rfl (hb hby d2_20)
  have f11 := ((hC.ext E2).other W7 (Or.inr (slot_ne (Or.inr (hw _ (own_w 18 rfl))) (Or.inr (hw _ (own_w 17 rfl))) (by decide) (t := .byte) (t' := (.array .byte)) (by decide) (by decide))))
  have f12 := (f5.wr W7)
  obtain ⟨T13, h13, X13, e13, W13, st13⟩ := putFN X10 hx hZ hown (hw _ (own_w 22 rfl)) Via.refl e10 f11 f12 (Or.inr ⟨(hw _ (own_w 18 rfl)), rfl, hnm⟩) (hw _ (own_w 3 rfl)) (ty := .byte) (v' := (.int 0)) (by decide) rfl rfl (g := (mkF m 23 #[rv a0, rv a1, iv 0, iv 0, .val .null, .unset] [(.int 0), (.ref a0)])) rfl rfl (hb hby d2_23)
  have N13 := Fr.snoc X13 N7 hge
  have Z13 : n0 ≤ h13.size := Nat.le_trans Z7 (Nat.le_of_eq W13.size.symm)
  have K13 : Keep h0 h13 [a0] := K7.wr W13 (Or.inl (List.mem_of_getElem? (i := 0) rfl))
  have Fw13 := f11.same W13
  have S14 : ∀ t, oS p e below T13 (mkF m 26 #[rv a0, rv a1, iv 0, iv 0, .val .null, .unset] []) t → oS p e below s₁ (mkF m 0 #[rv a0, rv a1, iv 0, iv 0, .val .null, .unset] []) t := fun t k => S3 t (by
    show oS p e below T1 (mkF m 9 #[rv a0, rv a1, iv 0, iv 0, .val .null, .unset] [(.ref a0)]) _
    refine st2 _ ?_
    refine st6 _ ?_
    refine st7 _ ?_
    refine XS.aloadN X7.here hx rfl (hb hby d2_17) rfl rfl ?_
    refine ldcAgain X7 hx hZ hown (hw _ (own_w 15 rfl)) Li2 (g := (mkF m 18 #[rv a0, rv a1, iv 0, iv 0, .val .null, .unset] [(.ref a0)])) rfl (hb hby d2_18) _ ?_
    refine st10 _ ?_
    refine st13 _ ?_
    exact k)
  obtain ⟨fs, hr, hrun, hended, hEnd⟩ := X13.leaveW hS2 (by rw [e13]; exact (Nat.le_trans (Nat.le_trans hk2 (Nat.le_of_eq W7.size.symm)) (Nat.le_of_eq W13.size.symm))) (v := none) (fun _ => rfl)
  refine ⟨_, _, pre0 _ (S14 _ ?_), hrun, hended, _, _, rfl, ?_, hEnd.1, hEnd.2.1, hEnd.2.2.1, hEnd.2.2.2.mono (by decide) (by decide)⟩
  · exact X13.returnOut hx Bd.returns (hb hby d2_26) hr
  have f15 := (Fw7.other W13 (Or.inr (slot_ne (Or.inr (hw _ (own_w 17 rfl))) (Or.inr (hw _ (own_w 18 rfl))) (by decide) (t := (.array .byte)) (t' := .byte) (by decide) (by decide))))
  have f16 := ((Av2.other W7 (Ne.symm ne_a0_b2)).other W13 (Ne.symm ne_a0_b2))
  · show QrmSi4_e Z a0 a1 ka h0 n0 _ T13.heap _
    rw [e13]
    exact ⟨rfl, N13, K13, Fw13, b2, _, f15, f16⟩
theorem d1_0 : decode jdk_42_method_3_code 0 = .ok (.aload_n 0, 1) := by decide +kernel
theorem d1_1 : decode jdk_42_method_3_code 1 = .ok (.aload_n 1, 1) := by decide +kernel
theorem d1_2 : decode jdk_42_method_3_code 2 = .ok (.iconst 0, 1) := by decide +kernel
theorem d1_3 : decode jdk_42_method_3_code 3 = .ok (.aload_n 1, 1) := by decide +kernel
theorem d1_4 : decode jdk_42_method_3_code 4 = .ok (.arraylength, 1) := by decide +kernel
theorem d1_5 : decode jdk_42_method_3_code 5 = .ok (.aconst_null, 1) := by decide +kernel
theorem d1_6 : decode jdk_42_method_3_code 6 = .ok (.invokespecial 27, 3) := by decide +kernel
theorem d1_9 : decode jdk_42_method_3_code 9 = .ok (.return_, 1) := by decide +kernel
theorem pd__CIILjava_lang_Void_V : parseMethodDescriptor "([CIILjava/lang/Void;)V" = some ⟨[(.array .char), .int, .int, (.object "java/lang/Void")], none⟩ := by decide +kernel
def QrmSi2_e (Z : State) (a0 : Addr) (a1 : Addr) (ka : ClassId) (h0 : Heap) (n0 : Nat) (v : Option Value) (h : Heap) (L : List Loc) : Prop := v = none ∧ Fr n0 L ∧ Keep h0 h [a0] ∧ Fld Z h a0 "java/lang/String" "coder" "B" (.int (0 : Int32)) ∧ ∃ (b : Addr) (k : ClassId), Fld Z h a0 "java/lang/String" "value" "[B" (.ref b) ∧ Arv Z h b k .byte (0 : Int32) [] (.int 0)
set_option maxRecDepth 65536 in
set_option maxHeartbeats 40000000 in
theorem rmSi2_e (l : Launch) (Z : State) (av0 : Array Value) (hw : ∀ d ∈ tables_1, d.before av0 Z = true) (ws : List Jvm.Cond) (a0 : Addr) (a1 : Addr) (ka : ClassId) (h0 : Heap) (n0 : Nat) (Z0 : n0 ≤ h0.size) (hE : Exa Z h0 a0 "java/lang/String") (hV : Fld Z h0 a0 "java/lang/String" "value" "[B" .null) (hC : Fld Z h0 a0 "java/lang/String" "coder" "B" (.int (0 : Int32))) (hge : n0 ≤ a0) (hA : Arv Z h0 a1 ka .char (0 : Int32) [] (.int (0 : Int32))) (hkp : ∀ (b : Addr) (cl : Cell), Z.heap[b]? = some cl → h0[b]? = some cl) (hcH : Jvm.Lit.constHeld Z "java/lang/String" 7) (hcw : Jvm.Lit.compactW.before av0 Z = true) :
    MetFree l mN3 (head1 (Jvm.Cond.code mN3 jdk_42_method_3_code 2 none :: ws) ({ frames := 2, cells := 2, slots := 4, locals := 29 } : Room)) (fun aU U => aU = #[(.ref a0), (.ref a1)] ∧ Z.Warmed39 U.vm ∧ U.heap = h0 ∧ IB Z U.vm []) (fun _ _ _ _ _ => True) (fun _ U oU U' => ∃ vU LU, oU = .returned vU ∧ QrmSi2_e Z a0 a1 ka h0 n0 vU U'.heap LU ∧ ReturnedEndW U oU U' LU ({ frames := 2, cells := 2, slots := 4, locals := 29 } : Room).cells ({ frames := 2, cells := 2, slots := 4, locals := 29 } : Room).slots) := by
  refine MetFree.of_bodySF (plainFor_of_name pn_String) hisR ?_
  intro p e s m args below meth c s₁ Bd hml0 hP hK
  obtain ⟨rfl, hZ, hh, hI⟩ := hP
  have hml : c.maxLocals = 2 := hml0
  obtain ⟨hx, hby, hown, hnm, X0, e0⟩ := own_start Bd hml0 hh
  have N0 := Fr.nil n0
  have pre0 : ∀ t, oS p e below s₁ (mkF m 0 #[rv a0, rv a1] []) t → Steps p.tables e below (s₁.setTop (entryFrame m #[(.ref a0), (.ref a1)] 2)) t := fun t k => castTop (by first | (simp [entryFrame, mkF, argsToLocals, Value.category]; done) | rfl) k
  obtain ⟨cl1, Ar1, qk1, Sz1, Ng1, Hs1, Gs1⟩ := id hA
  have S3 : ∀ t, oS p e below s₁ (mkF m 6 #[rv a0, rv a1] [.null, (.int 0), (.int 0), (.ref a1), (.ref a0)]) t → oS p e below s₁ (mkF m 0 #[rv a0, rv a1] []) t := fun t k => id (by
    show oS p e below s₁ (mkF m 0 #[rv a0, rv a1] []) _
    refine XS.aloadN X0.here hx rfl (hb hby d1_0) rfl rfl ?_
    refine XS.aloadN X0.here hx rfl (hb hby d1_1) rfl rfl ?_
    refine XT.iconstV X0.here hx rfl (0 : Int32) (hb hby d1_2) (by decide) ?_
    refine XS.aloadN X0.here hx rfl (hb hby d1_3) rfl rfl ?_
    refine X0.arraylength hx (by rw [e0]; exact Ar1.1) (State.isArrayOf_alike hZ.alike Ar1.2.1) (g := (mkF m 4 #[rv a0, rv a1] [(.ref a1), (.int 0), (.ref a1), (.ref a0)])) rfl rfl (hb hby d1_4) _ ?_
    rw [len_of Sz1 Ng1]
    refine XS.aconstNull X0.here hx rfl (hb hby d1_5) ?_
    exact k)
  obtain ⟨_, T2, Lc2, X2, hS2, hQ2, st2⟩ := own_specialI (W := 0) (y := mN2) X0 hx hZ rfl hown (hw _ (own_w 8 rfl)) (hw _ (own_w 9 rfl)) (hw _ (own_w 11 rfl)) (hw _ (own_w 4 rfl)) (by decide) (rmSi4_e l Z av0 hw [] a0 a1 ka h0 n0 Z0 hE hV hC hge hA hkp hcH hcw) (by decide) (by decide) hI (g := (mkF m 6 #[rv a0, rv a1] [.null, (.int 0), (.int 0), (.ref a1), (.ref a0)])) rfl (by rw [hml]; rfl) (a := a0) (argsL := [(.ref a1), (.int 0), (.int 0), .null]) (rest := []) (lenOf pd__CIILjava_lang_Void_V rfl) rfl (hb hby d1_6) rfl e0 (by decide : 0 + 2 ≤ _) (by decide : 0 + 4 ≤ _)
  have hZ := State.Warmed39.trans (t := s) hZ hS2.1
  have hown : (s.setVm T2.vm).vm.findClass mN3.cls = some m.cls := by rw [show (s.setVm T2.vm).vm = T2.vm from rfl, hS2.1.alike.findClass]; exact hown
  obtain ⟨rfl, N2q, K2, FC2, b2, kb2, FV2, V2⟩ := hQ2
  have N2 := Fr.app N0 N2q
  have e2 : T2.heap = T2.heap := rfl
  have Zk2 : n0 ≤ T2.heap.size := Nat.le_trans Z0 K2.1
  have Kk2 : Keep h0 T2.heap [a0] := (Keep.refl h0 [a0]).trans K2 (allS (Or.inl (List.mem_of_getElem? (i := 0) rfl)) all0)
  have S4 : ∀ t, oS p e below T2 (mkF m 9 #[rv a0, rv a1] []) t → oS p e below s₁ (mkF m 0 #[rv a0, rv a1] []) t := fun t k => S3 t (by
    show oS p e below s₁ (mkF m 6 #[rv a0, rv a1] [.null, (.int 0), (.int 0), (.ref a1), (.ref a0)]) _
    refine st2 _ ?_
    exact k)
  obtain ⟨fs, hr, hrun, hended, hEnd⟩ := X2.leaveW hS2 (by rw [e2]; exact (Nat.le_refl _)) (v := none) (fun _ => rfl)
  refine ⟨_, _, pre0 _ (S4 _ ?_), hrun, hended, _, _, rfl, ?_, hEnd.1, hEnd.2.1, hEnd.2.2.1, hEnd.2.2.2.mono (by decide) (by decide)⟩
  · exact X2.returnOut hx Bd.returns (hb hby d1_9) hr
  · show QrmSi2_e Z a0 a1 ka h0 n0 _ T2.heap _
    rw [e2]
    exact ⟨rfl, N2, Kk2, FC2, b2, _, FV2, V2⟩
def Qrm0 (Z : State) (p0 p1 p2 p3 p4 : Int32) (wC : Int32) (fm : Value) (h0 : Heap) (n0 : Nat) (v : Option Value) (h : Heap) (L : List Loc) : Prop := v = some (.int 1) ∧ Fr n0 L
def own_St0 (Z : State) (h : Heap) (a : Addr)  : Prop := (∃ (b : Addr) (k : ClassId), Fld Z h a "java/lang/String" "value" "[B" (.ref b) ∧ Fld Z h a "java/lang/String" "coder" "B" (.int (0 : Int32)) ∧ Arv Z h b k .byte (0 : Int32) [] (.int (0 : Int32))) ∨ (∃ (b : Addr) (k : ClassId), Fld Z h a "java/lang/String" "value" "[B" (.ref b) ∧ Fld Z h a "java/lang/String" "coder" "B" (.int (1 : Int32)) ∧ Arv Z h b k .byte (0 : Int32) [] (.int (0 : Int32)))
theorem own_St0_ext {Z : State} {h h' : Heap} {a o : Addr}  (S : own_St0 Z h a ) (E : Ext h h') : own_St0 Z h' a  := by
  rcases S with ⟨b, k, f, g, A⟩ | ⟨b, k, f, g, A⟩
  · exact Or.inl ⟨b, k, f.ext E, g.ext E, A.ext E⟩
  · exact Or.inr ⟨b, k, f.ext E, g.ext E, A.ext E⟩
theorem own_St0_wr {Z : State} {h h' : Heap} {a o : Addr}  (S : own_St0 Z h a ) {sl : Nat} {v : Value} (W : Wr h h' o sl v) (hn : a ≠ o) (hb : ∀ {b k z vs d}, Arv Z h b k .byte z vs d → b ≠ o) : own_St0 Z h' a  := by
  rcases S with ⟨b, k, f, g, A⟩ | ⟨b, k, f, g, A⟩
  · exact Or.inl ⟨b, k, f.other W (Or.inl hn), g.other W (Or.inl hn), A.other W (hb A)⟩
  · exact Or.inr ⟨b, k, f.other W (Or.inl hn), g.other W (Or.inl hn), A.other W (hb A)⟩
theorem own_St0_k0 {Z : State} {h h' : Heap} {a o : Addr}  (S : own_St0 Z h a ) (K : Keep h h' []) : own_St0 Z h' a  := by
  rcases S with ⟨b, k, f, g, A⟩ | ⟨b, k, f, g, A⟩
  · exact Or.inl ⟨b, k, f.keep K nin0, g.keep K nin0, A.keep K nin0⟩
  · exact Or.inr ⟨b, k, f.keep K nin0, g.keep K nin0, A.keep K nin0⟩
theorem own_St0_k1 {Z : State} {h h' : Heap} {a o : Addr}  (S : own_St0 Z h a ) (K : Keep h h' [o]) (hn : a ≠ o) (hb : ∀ {b k z vs d}, Arv Z h b k .byte z vs d → b ≠ o) : own_St0 Z h' a  := by
  rcases S with ⟨b, k, f, g, A⟩ | ⟨b, k, f, g, A⟩
  · exact Or.inl ⟨b, k, f.keep K (ninS hn nin0), g.keep K (ninS hn nin0), A.keep K (ninS (hb A) nin0)⟩
  · exact Or.inr ⟨b, k, f.keep K (ninS hn nin0), g.keep K (ninS hn nin0), A.keep K (ninS (hb A) nin0)⟩
theorem d6_0 : decode jdk_42_method_152_code 0 = .ok (.getstatic 38, 3) := by decide +kernel
theorem d6_3 : decode jdk_42_method_152_code 3 = .ok (.ifCond .eq 10, 3) := by decide +kernel
theorem d6_6 : decode jdk_42_method_152_code 6 = .ok (.aload_n 0, 1) := by decide +kernel
theorem d6_7 : decode jdk_42_method_152_code 7 = .ok (.getfield 15, 3) := by decide +kernel
theorem d6_10 : decode jdk_42_method_152_code 10 = .ok (.goto 4, 3) := by decide +kernel
theorem d6_14 : decode jdk_42_method_152_code 14 = .ok (.ireturn, 1) := by decide +kernel
def QrmCoder_0 (Z : State) (a0 : Addr) (wC : Int32) (h0 : Heap) (n0 : Nat) (v : Option Value) (h : Heap) (L : List Loc) : Prop := v = some (.int 0) ∧ Fr n0 L ∧ h = h0
set_option maxRecDepth 65536 in
set_option maxHeartbeats 40000000 in
theorem rmCoder_0 (l : Launch) (Z : State) (av0 : Array Value) (hw : ∀ d ∈ tables_1, d.before av0 Z = true) (ws : List Jvm.Cond) (a0 : Addr) (wC : Int32) (h0 : Heap) (n0 : Nat) (Z0 : n0 ≤ h0.size) (hS : Sta Z h0 "java/lang/String" "COMPACT_STRINGS" "Z" (.int wC)) (hw0 : ¬ wC = (0 : Int32)) (hC : Fld Z h0 a0 "java/lang/String" "coder" "B" (.int (0 : Int32))) :
    own_Met l mN4 jdk_42_method_152_code 1 (some .byte) ws ({ frames := 0, cells := 0, slots := 0, locals := 0 } : Room) #[(.ref a0)] Z h0 (QrmCoder_0 Z a0 wC h0 n0) := by
  refine MetFree.of_bodySF (plainFor_of_name pn_String) hisR ?_
  intro p e s m args below meth c s₁ Bd hml0 hP hK
  obtain ⟨rfl, hZ, hh⟩ := hP
  have hml : c.maxLocals = 1 := hml0
  obtain ⟨hx, hby, hown, hnm, X0, e0⟩ := own_start Bd hml0 hh
  have N0 := Fr.nil n0
  have pre0 : ∀ t, oS p e below s₁ (mkF m 0 #[rv a0] []) t → Steps p.tables e below (s₁.setTop (entryFrame m #[(.ref a0)] 1)) t := fun t k => castTop (by first | (simp [entryFrame, mkF, argsToLocals, Value.category]; done) | rfl) k
  obtain ⟨T1, X1, e1, st1⟩ := getS2 X0 hx hZ hown (host := "") (Or.inl (hw _ (own_w 37 rfl))) Via.refl e0 hS (g := (mkF m 0 #[rv a0] [])) rfl (hb hby d6_0)
  obtain ⟨T2, X2, e2, st2⟩ := getF X1 hx hZ hown (host := "") (Or.inl (hw _ (own_w 22 rfl))) Via.refl e1 hC (g := (mkF m 7 #[rv a0] [(.ref a0)])) rfl rfl (hb hby d6_7)
  have S3 : ∀ t, oS p e below T2 (mkF m 14 #[rv a0] [(.int 0)]) t → oS p e below s₁ (mkF m 0 #[rv a0] []) t := fun t k => id (by
    show oS p e below s₁ (mkF m 0 #[rv a0] []) _
    refine st1 _ ?_
    refine XS.ifNo X1.here hx rfl (hb hby d6_3) rfl (XT.i0_eq_f hw0) ?_
    refine XS.aloadN X1.here hx rfl (hb hby d6_6) rfl rfl ?_
    refine st2 _ ?_
    refine XS.goto X2.here hx rfl (pc0 := 10) (pc' := 14) rfl (hb hby d6_10) (by decide) (by decide) ?_
    exact k)
  obtain ⟨fs, hr, hrun, hended, hW, hsame⟩ := X2.leave (v := some (.int (nar .byte (0 : Int32)))) (fun h => by rw [Bd.returns] at h; cases h)
  refine ⟨_, _, pre0 _ (S3 _ ?_), hrun, hended, _, _, rfl, ?_, ⟨_, rfl⟩, hW, hsame.mono (by decide) (by decide)⟩
  · exact retN X2 hx (t := .byte) Bd.returns (by simp) (hb hby d6_14) hr
  · show QrmCoder_0 Z a0 wC h0 n0 _ T2.heap _
    rw [e2]
    exact ⟨congrArg (fun z => some (Value.int z)) (by decide), N0, rfl⟩
theorem d5_0 : decode jdk_42_method_54_code 0 = .ok (.aload_n 0, 1) := by decide +kernel
theorem d5_1 : decode jdk_42_method_54_code 1 = .ok (.getfield 9, 3) := by decide +kernel
theorem d5_4 : decode jdk_42_method_54_code 4 = .ok (.arraylength, 1) := by decide +kernel
theorem d5_5 : decode jdk_42_method_54_code 5 = .ok (.aload_n 0, 1) := by decide +kernel
theorem d5_6 : decode jdk_42_method_54_code 6 = .ok (.invokevirtual 335, 3) := by decide +kernel
theorem d5_9 : decode jdk_42_method_54_code 9 = .ok (.ishr, 1) := by decide +kernel
theorem d5_10 : decode jdk_42_method_54_code 10 = .ok (.ireturn, 1) := by decide +kernel
theorem pd__B : parseMethodDescriptor "()B" = some ⟨[], some .byte⟩ := by decide +kernel
def QrmLen_0_0 (Z : State) (a0 : Addr) (ab : Addr) (kb : ClassId) (wC : Int32) (h0 : Heap) (n0 : Nat) (v : Option Value) (h : Heap) (L : List Loc) : Prop := v = some (.int (0 : Int32)) ∧ Fr n0 L ∧ h = h0
set_option maxRecDepth 65536 in
set_option maxHeartbeats 40000000 in
theorem rmLen_0_0 (l : Launch) (Z : State) (av0 : Array Value) (hw : ∀ d ∈ tables_1, d.before av0 Z = true) (ws : List Jvm.Cond) (a0 : Addr) (ab : Addr) (kb : ClassId) (wC : Int32) (h0 : Heap) (n0 : Nat) (Z0 : n0 ≤ h0.size) (hE : Exa Z h0 a0 "java/lang/String") (hV : Fld Z h0 a0 "java/lang/String" "value" "[B" (.ref ab)) (hC : Fld Z h0 a0 "java/lang/String" "coder" "B" (.int (0 : Int32))) (hB : Arv Z h0 ab kb .byte (0 : Int32) [] (.int (0 : Int32))) (hS : Sta Z h0 "java/lang/String" "COMPACT_STRINGS" "Z" (.int wC)) (hw0 : ¬ wC = (0 : Int32)) :
    own_Met l mN5 jdk_42_method_54_code 1 (some .int) ws ({ frames := 1, cells := 0, slots := 0, locals := 13 } : Room) #[(.ref a0)] Z h0 (QrmLen_0_0 Z a0 ab kb wC h0 n0) := by
  refine MetFree.of_bodySF (plainFor_of_name pn_String) hisR ?_
  intro p e s m args below meth c s₁ Bd hml0 hP hK
  obtain ⟨rfl, hZ, hh⟩ := hP
  have hml : c.maxLocals = 1 := hml0
  obtain ⟨hx, hby, hown, hnm, X0, e0⟩ := own_start Bd hml0 hh
  have N0 := Fr.nil n0
  have pre0 : ∀ t, oS p e below s₁ (mkF m 0 #[rv a0] []) t → Steps p.tables e below (s₁.setTop (entryFrame m #[(.ref a0)] 1)) t := fun t k => castTop (by first | (simp [entryFrame, mkF, argsToLocals, Value.category]; done) | rfl) k
  obtain ⟨T1, X1, e1, st1⟩ := getF X0 hx hZ hown (host := "") (Or.inl (hw _ (own_w 21 rfl))) Via.refl e0 hV (g := (mkF m 1 #[rv a0] [(.ref a0)])) rfl rfl (hb hby d5_1)
  obtain ⟨cl2, Ar2, qk2, Sz2, Ng2, Hs2, Gs2⟩ := id hB
  obtain ⟨_, T3, Lc3, X3, hQ3, st3⟩ := own_virtual (W := 1) (y := mN4) (z := mN4) X1 hx hZ hown (hw _ (own_w 32 rfl)) (hw _ (own_w 33 rfl)) (notFace_of_selects (args := #[]) (mvT hZ (hw _ (own_w 35 rfl)))) (hw _ (own_w 35 rfl)) (hw _ (own_w 34 rfl)) (hw _ (own_w 36 rfl)) (hw _ (own_w 4 rfl)) (by decide) (rmCoder_0 l Z av0 hw [] a0 wC h0 n0 Z0 hS hw0 hC) (by decide) (by decide) hE (g := (mkF m 6 #[rv a0] [(.ref a0), (.int 0)])) rfl (by rw [hml]; rfl) (argsL := []) (rest := [(.int 0)]) (lenOf pd__B rfl) rfl (hb hby d5_6) rfl e1 (by decide : 0 + 0 ≤ _) (by decide : 0 + 0 ≤ _)
  obtain ⟨rfl, N3q, hh3⟩ := hQ3
  have N3 := Fr.app N0 N3q
  have e3 : T3.heap = h0 := hh3
  have S4 : ∀ t, oS p e below T3 (mkF m 10 #[rv a0] [(.int 0)]) t → oS p e below s₁ (mkF m 0 #[rv a0] []) t := fun t k => id (by
    show oS p e below s₁ (mkF m 0 #[rv a0] []) _
    refine XS.aloadN X0.here hx rfl (hb hby d5_0) rfl rfl ?_
    refine st1 _ ?_
    refine X1.arraylength hx (by rw [e1]; exact Ar2.1) (State.isArrayOf_alike hZ.alike Ar2.2.1) (g := (mkF m 4 #[rv a0] [(.ref ab)])) rfl rfl (hb hby d5_4) _ ?_
    rw [len_of Sz2 Ng2]
    refine XS.aloadN X1.here hx rfl (hb hby d5_5) rfl rfl ?_
    refine st3 _ ?_
    refine XT.ishr X3.here hx rfl (hb hby d5_9) rfl ?_
    exact k)
  obtain ⟨fs, hr, hrun, hended, hW, hsame⟩ := X3.leave (v := some (.int 0)) (fun h => by rw [Bd.returns] at h; cases h)
  refine ⟨_, _, pre0 _ (S4 _ ?_), hrun, hended, _, _, rfl, ?_, ⟨_, rfl⟩, hW, hsame.mono (by decide) (by decide)⟩
  · exact retI X3 hx Bd.returns (hb hby d5_10) hr
  · show QrmLen_0_0 Z a0 ab kb wC h0 n0 _ T3.heap _
    rw [e3]
    exact ⟨congrArg (fun z => some (Value.int z)) (by decide), N3, rfl⟩
def QrmCoder_1 (Z : State) (a0 : Addr) (wC : Int32) (h0 : Heap) (n0 : Nat) (v : Option Value) (h : Heap) (L : List Loc) : Prop := v = some (.int 1) ∧ Fr n0 L ∧ h = h0
set_option maxRecDepth 65536 in
set_option maxHeartbeats 40000000 in
theorem rmCoder_1 (l : Launch) (Z : State) (av0 : Array Value) (hw : ∀ d ∈ tables_1, d.before av0 Z = true) (ws : List Jvm.Cond) (a0 : Addr) (wC : Int32) (h0 : Heap) (n0 : Nat) (Z0 : n0 ≤ h0.size) (hS : Sta Z h0 "java/lang/String" "COMPACT_STRINGS" "Z" (.int wC)) (hw0 : ¬ wC = (0 : Int32)) (hC : Fld Z h0 a0 "java/lang/String" "coder" "B" (.int (1 : Int32))) :
    own_Met l mN4 jdk_42_method_152_code 1 (some .byte) ws ({ frames := 0, cells := 0, slots := 0, locals := 0 } : Room) #[(.ref a0)] Z h0 (QrmCoder_1 Z a0 wC h0 n0) := by
  refine MetFree.of_bodySF (plainFor_of_name pn_String) hisR ?_
  intro p e s m args below meth c s₁ Bd hml0 hP hK
  obtain ⟨rfl, hZ, hh⟩ := hP
  have hml : c.maxLocals = 1 := hml0
  obtain ⟨hx, hby, hown, hnm, X0, e0⟩ := own_start Bd hml0 hh
  have N0 := Fr.nil n0
  have pre0 : ∀ t, oS p e below s₁ (mkF m 0 #[rv a0] []) t → Steps p.tables e below (s₁.setTop (entryFrame m #[(.ref a0)] 1)) t := fun t k => castTop (by first | (simp [entryFrame, mkF, argsToLocals, Value.category]; done) | rfl) k
  obtain ⟨T1, X1, e1, st1⟩ := getS2 X0 hx hZ hown (host := "") (Or.inl (hw _ (own_w 37 rfl))) Via.refl e0 hS (g := (mkF m 0 #[rv a0] [])) rfl (hb hby d6_0)
  obtain ⟨T2, X2, e2, st2⟩ := getF X1 hx hZ hown (host := "") (Or.inl (hw _ (own_w 22 rfl))) Via.refl e1 hC (g := (mkF m 7 #[rv a0] [(.ref a0)])) rfl rfl (hb hby d6_7)
  have S3 : ∀ t, oS p e below T2 (mkF m 14 #[rv a0] [(.int 1)]) t → oS p e below s₁ (mkF m 0 #[rv a0] []) t := fun t k => id (by
    show oS p e below s₁ (mkF m 0 #[rv a0] []) _
    refine st1 _ ?_
    refine XS.ifNo X1.here hx rfl (hb hby d6_3) rfl (XT.i0_eq_f hw0) ?_
    refine XS.aloadN X1.here hx rfl (hb hby d6_6) rfl rfl ?_
    refine st2 _ ?_
    refine XS.goto X2.here hx rfl (pc0 := 10) (pc' := 14) rfl (hb hby d6_10) (by decide) (by decide) ?_
    exact k)
  obtain ⟨fs, hr, hrun, hended, hW, hsame⟩ := X2.leave (v := some (.int (nar .byte (1 : Int32)))) (fun h => by rw [Bd.returns] at h; cases h)
  refine ⟨_, _, pre0 _ (S3 _ ?_), hrun, hended, _, _, rfl, ?_, ⟨_, rfl⟩, hW, hsame.mono (by decide) (by decide)⟩
  · exact retN X2 hx (t := .byte) Bd.returns (by simp) (hb hby d6_14) hr
  · show QrmCoder_1 Z a0 wC h0 n0 _ T2.heap _
    rw [e2]
    exact ⟨congrArg (fun z => some (Value.int z)) (by decide), N0, rfl⟩
def QrmLen_0_1 (Z : State) (a0 : Addr) (ab : Addr) (kb : ClassId) (wC : Int32) (h0 : Heap) (n0 : Nat) (v : Option Value) (h : Heap) (L : List Loc) : Prop := v = some (.int (0 : Int32)) ∧ Fr n0 L ∧ h = h0
set_option maxRecDepth 65536 in
set_option maxHeartbeats 40000000 in
theorem rmLen_0_1 (l : Launch) (Z : State) (av0 : Array Value) (hw : ∀ d ∈ tables_1, d.before av0 Z = true) (ws : List Jvm.Cond) (a0 : Addr) (ab : Addr) (kb : ClassId) (wC : Int32) (h0 : Heap) (n0 : Nat) (Z0 : n0 ≤ h0.size) (hE : Exa Z h0 a0 "java/lang/String") (hV : Fld Z h0 a0 "java/lang/String" "value" "[B" (.ref ab)) (hC : Fld Z h0 a0 "java/lang/String" "coder" "B" (.int (1 : Int32))) (hB : Arv Z h0 ab kb .byte (0 : Int32) [] (.int (0 : Int32))) (hS : Sta Z h0 "java/lang/String" "COMPACT_STRINGS" "Z" (.int wC)) (hw0 : ¬ wC = (0 : Int32)) :
    own_Met l mN5 jdk_42_method_54_code 1 (some .int) ws ({ frames := 1, cells := 0, slots := 0, locals := 13 } : Room) #[(.ref a0)] Z h0 (QrmLen_0_1 Z a0 ab kb wC h0 n0) := by
  refine MetFree.of_bodySF (plainFor_of_name pn_String) hisR ?_
  intro p e s m args below meth c s₁ Bd hml0 hP hK
  obtain ⟨rfl, hZ, hh⟩ := hP
  have hml : c.maxLocals = 1 := hml0
  obtain ⟨hx, hby, hown, hnm, X0, e0⟩ := own_start Bd hml0 hh
  have N0 := Fr.nil n0
  have pre0 : ∀ t, oS p e below s₁ (mkF m 0 #[rv a0] []) t → Steps p.tables e below (s₁.setTop (entryFrame m #[(.ref a0)] 1)) t := fun t k => castTop (by first | (simp [entryFrame, mkF, argsToLocals, Value.category]; done) | rfl) k
  obtain ⟨T1, X1, e1, st1⟩ := getF X0 hx hZ hown (host := "") (Or.inl (hw _ (own_w 21 rfl))) Via.refl e0 hV (g := (mkF m 1 #[rv a0] [(.ref a0)])) rfl rfl (hb hby d5_1)
  obtain ⟨cl2, Ar2, qk2, Sz2, Ng2, Hs2, Gs2⟩ := id hB
  obtain ⟨_, T3, Lc3, X3, hQ3, st3⟩ := own_virtual (W := 1) (y := mN4) (z := mN4) X1 hx hZ hown (hw _ (own_w 32 rfl)) (hw _ (own_w 33 rfl)) (notFace_of_selects (args := #[]) (mvT hZ (hw _ (own_w 35 rfl)))) (hw _ (own_w 35 rfl)) (hw _ (own_w 34 rfl)) (hw _ (own_w 36 rfl)) (hw _ (own_w 4 rfl)) (by decide) (rmCoder_1 l Z av0 hw [] a0 wC h0 n0 Z0 hS hw0 hC) (by decide) (by decide) hE (g := (mkF m 6 #[rv a0] [(.ref a0), (.int 0)])) rfl (by rw [hml]; rfl) (argsL := []) (rest := [(.int 0)]) (lenOf pd__B rfl) rfl (hb hby d5_6) rfl e1 (by decide : 0 + 0 ≤ _) (by decide : 0 + 0 ≤ _)
  obtain ⟨rfl, N3q, hh3⟩ := hQ3
  have N3 := Fr.app N0 N3q
  have e3 : T3.heap = h0 := hh3
  have S4 : ∀ t, oS p e below T3 (mkF m 10 #[rv a0] [(.int 0)]) t → oS p e below s₁ (mkF m 0 #[rv a0] []) t := fun t k => id (by
    show oS p e below s₁ (mkF m 0 #[rv a0] []) _
    refine XS.aloadN X0.here hx rfl (hb hby d5_0) rfl rfl ?_
    refine st1 _ ?_
    refine X1.arraylength hx (by rw [e1]; exact Ar2.1) (State.isArrayOf_alike hZ.alike Ar2.2.1) (g := (mkF m 4 #[rv a0] [(.ref ab)])) rfl rfl (hb hby d5_4) _ ?_
    rw [len_of Sz2 Ng2]
    refine XS.aloadN X1.here hx rfl (hb hby d5_5) rfl rfl ?_
    refine st3 _ ?_
    refine XT.ishr X3.here hx rfl (hb hby d5_9) rfl ?_
    exact k)
  obtain ⟨fs, hr, hrun, hended, hW, hsame⟩ := X3.leave (v := some (.int 0)) (fun h => by rw [Bd.returns] at h; cases h)
  refine ⟨_, _, pre0 _ (S4 _ ?_), hrun, hended, _, _, rfl, ?_, ⟨_, rfl⟩, hW, hsame.mono (by decide) (by decide)⟩
  · exact retI X3 hx Bd.returns (hb hby d5_10) hr
  · show QrmLen_0_1 Z a0 ab kb wC h0 n0 _ T3.heap _
    rw [e3]
    exact ⟨congrArg (fun z => some (Value.int z)) (by decide), N3, rfl⟩
theorem rmLenJ_0 (l : Launch) (Z : State) (av0 : Array Value) (hw : ∀ d ∈ tables_1, d.before av0 Z = true) (ws : List Jvm.Cond) (a0 : Addr) (wC : Int32) (fm : Value)  (h0 : Heap) (n0 : Nat) (Z0 : n0 ≤ h0.size) (hE : Exa Z h0 a0 "java/lang/String") (hSt : own_St0 Z h0 a0 ) (hS : Sta Z h0 "java/lang/String" "COMPACT_STRINGS" "Z" (.int wC)) (hw0 : ¬ wC = (0 : Int32))  :
    own_Met l mN5 jdk_42_method_54_code 1 (some .int) ws ({ frames := 1, cells := 0, slots := 0, locals := 13 } : Room) #[(.ref a0)] Z h0 (fun v h L => v = some (.int (0 : Int32)) ∧ Fr n0 L ∧ h = h0) := by
  rcases hSt with ⟨ab, kb, hV, hC, hB⟩ | ⟨ab, kb, hV, hC, hB⟩
  · exact rmLen_0_0 l Z av0 hw ws a0 ab kb wC  h0 n0 Z0 hE hV hC hB hS hw0
  · exact rmLen_0_1 l Z av0 hw ws a0 ab kb wC  h0 n0 Z0 hE hV hC hB hS hw0
theorem d4_0 : decode prog_60_method_4_code 0 = .ok (.iconst 1, 1) := by decide +kernel
theorem d4_1 : decode prog_60_method_4_code 1 = .ok (.istore_n 1, 1) := by decide +kernel
theorem d4_2 : decode prog_60_method_4_code 2 = .ok (.iconst 0, 1) := by decide +kernel
theorem d4_3 : decode prog_60_method_4_code 3 = .ok (.istore_n 2, 1) := by decide +kernel
theorem d4_4 : decode prog_60_method_4_code 4 = .ok (.iload_n 2, 1) := by decide +kernel
theorem d4_5 : decode prog_60_method_4_code 5 = .ok (.aload_n 0, 1) := by decide +kernel
theorem d4_6 : decode prog_60_method_4_code 6 = .ok (.invokevirtual 13, 3) := by decide +kernel
theorem d4_9 : decode prog_60_method_4_code 9 = .ok (.if_icmp .ge 38, 3) := by decide +kernel
theorem d4_47 : decode prog_60_method_4_code 47 = .ok (.iload_n 1, 1) := by decide +kernel
theorem d4_48 : decode prog_60_method_4_code 48 = .ok (.ireturn, 1) := by decide +kernel
theorem pn_XsNames : plainName "com/example/headwater/headwater/core/XsNames" = true := by first | (simp [plainName, overriddenIn]; done) | decide +kernel
theorem pd__I : parseMethodDescriptor "()I" = some ⟨[], some .int⟩ := by decide +kernel
def QrmNs_0 (Z : State) (a0 : Addr) (wC : Int32) (fm : Value) (h0 : Heap) (n0 : Nat) (v : Option Value) (h : Heap) (L : List Loc) : Prop := v = some (.int (own_ns [])) ∧ Fr n0 L ∧ h = h0
set_option maxRecDepth 65536 in
set_option maxHeartbeats 40000000 in
theorem rmNs_0 (l : Launch) (Z : State) (av0 : Array Value) (hw : ∀ d ∈ tables_1, d.before av0 Z = true) (ws : List Jvm.Cond) (a0 : Addr) (wC : Int32) (fm : Value) (h0 : Heap) (n0 : Nat) (Z0 : n0 ≤ h0.size) (hE : Exa Z h0 a0 "java/lang/String") (hSt : own_St0 Z h0 a0 ) (hS : Sta Z h0 "java/lang/String" "COMPACT_STRINGS" "Z" (.int wC)) (hw0 : ¬ wC = (0 : Int32)) (hfm : fm.isRef = true) (hF : Sta Z h0 "jdk/internal/util/Preconditions" "SIOOBE_FORMATTER" "Ljava/util/function/BiFunction;" fm) (sA : Sta Z h0 "java/lang/StringUTF16" "$assertionsDisabled" "Z" (.int (1 : Int32))) (sH : Sta Z h0 "java/lang/StringUTF16" "HI_BYTE_SHIFT" "I" (.int (0 : Int32))) (sL : Sta Z h0 "java/lang/StringUTF16" "LO_BYTE_SHIFT" "I" (.int (8 : Int32))) :
    own_Met l mN6 prog_60_method_4_code 4 (some .boolean) ws ({ frames := 2, cells := 0, slots := 0, locals := 26 } : Room) #[(.ref a0)] Z h0 (QrmNs_0 Z a0 wC fm h0 n0) := by
  refine MetFree.of_bodySF (plainFor_of_name pn_XsNames) hisR ?_
  intro p e s m args below meth c s₁ Bd hml0 hP hK
  obtain ⟨rfl, hZ, hh⟩ := hP
  have hml : c.maxLocals = 4 := hml0
  obtain ⟨hx, hby, hown, hnm, X0, e0⟩ := own_start Bd hml0 hh
  have N0 := Fr.nil n0
  have pre0 : ∀ t, oS p e below s₁ (mkF m 0 #[rv a0, .unset, .unset, .unset] []) t → Steps p.tables e below (s₁.setTop (entryFrame m #[(.ref a0)] 4)) t := fun t k => castTop (by first | (simp [entryFrame, mkF, argsToLocals, Value.category]; done) | rfl) k
  obtain ⟨_, T1, Lc1, X1, hQ1, st1⟩ := own_virtual (W := 1) (y := mN5) (z := mN5) X0 hx hZ hown (hw _ (own_w 27 rfl)) (hw _ (own_w 28 rfl)) (notFace_of_selects (args := #[]) (mvT hZ (hw _ (own_w 30 rfl)))) (hw _ (own_w 30 rfl)) (hw _ (own_w 29 rfl)) (hw _ (own_w 31 rfl)) (hw _ (own_w 4 rfl)) (by decide) (rmLenJ_0 l Z av0 hw [] a0 wC fm  h0 n0 Z0 hE hSt hS hw0) (by decide) (by decide) hE (g := (mkF m 6 #[rv a0, iv 1, iv 0, .unset] [(.ref a0), (.int 0)])) rfl (by rw [hml]; rfl) (argsL := []) (rest := [(.int 0)]) (lenOf pd__I rfl) rfl (hb hby d4_6) rfl e0 (by decide : 0 + 0 ≤ _) (by decide : 0 + 0 ≤ _)
  obtain ⟨rfl, N1q, hh1⟩ := hQ1
  have N1 := Fr.app N0 N1q
  have e1 : T1.heap = h0 := hh1
  have S2 : ∀ t, oS p e below T1 (mkF m 48 #[rv a0, iv 1, iv 0, .unset] [(.int 1)]) t → oS p e below s₁ (mkF m 0 #[rv a0, .unset, .unset, .unset] []) t := fun t k => id (by
    show oS p e below s₁ (mkF m 0 #[rv a0, .unset, .unset, .unset] []) _
    refine XT.iconstV X0.here hx rfl (1 : Int32) (hb hby d4_0) (by decide) ?_
    refine XS.istoreN X0.here hx rfl (hb hby d4_1) rfl (l' := #[rv a0, iv 1, .unset, .unset]) rfl ?_
    refine XT.iconstV X0.here hx rfl (0 : Int32) (hb hby d4_2) (by decide) ?_
    refine XS.istoreN X0.here hx rfl (hb hby d4_3) rfl (l' := #[rv a0, iv 1, iv 0, .unset]) rfl ?_
    refine XS.iloadN X0.here hx rfl (hb hby d4_4) rfl ?_
    refine XS.aloadN X0.here hx rfl (hb hby d4_5) rfl rfl ?_
    refine st1 _ ?_
    refine XS.icmpYes X1.here hx rfl (pc0 := 9) (pc' := 47) rfl (hb hby d4_9) rfl (XT.ii_ge_t (by decide)) (by decide) (by decide) ?_
    refine XS.iloadN X1.here hx rfl (hb hby d4_47) rfl ?_
    exact k)
  obtain ⟨fs, hr, hrun, hended, hW, hsame⟩ := X1.leave (v := some (.int 1)) (fun h => by rw [Bd.returns] at h; cases h)
  refine ⟨_, _, pre0 _ (S2 _ ?_), hrun, hended, _, _, rfl, ?_, ⟨_, rfl⟩, hW, hsame.mono (by decide) (by decide)⟩
  · exact retN X1 hx (t := .boolean) Bd.returns (by simp) (hb hby d4_48) hr
  · show QrmNs_0 Z a0 wC fm h0 n0 _ T1.heap _
    rw [e1]
    exact ⟨by simp [own_ns], N1, rfl⟩
theorem pd__C_V : parseMethodDescriptor "([C)V" = some ⟨[(.array .char)], none⟩ := by decide +kernel
theorem pd__Ljava_lang_String_Z : parseMethodDescriptor "(Ljava/lang/String;)Z" = some ⟨[(.object "java/lang/String")], some .boolean⟩ := by decide +kernel
set_option maxRecDepth 65536 in
set_option maxHeartbeats 40000000 in
theorem rm0_0 (l : Launch) (Z : State) (av0 : Array Value) (hw : ∀ d ∈ tables_1, d.before av0 Z = true) (ws : List Jvm.Cond) (p0 : Int32) (p1 : Int32) (p2 : Int32) (p3 : Int32) (p4 : Int32) (wC : Int32) (fm : Value) (h0 : Heap) (n0 : Nat) (Z0 : n0 ≤ h0.size) (hS : Sta Z h0 "java/lang/String" "COMPACT_STRINGS" "Z" (.int wC)) (hw0 : ¬ wC = (0 : Int32)) (hfm : fm.isRef = true) (hF : Sta Z h0 "jdk/internal/util/Preconditions" "SIOOBE_FORMATTER" "Ljava/util/function/BiFunction;" fm) (sA : Sta Z h0 "java/lang/StringUTF16" "$assertionsDisabled" "Z" (.int (1 : Int32))) (sH : Sta Z h0 "java/lang/StringUTF16" "HI_BYTE_SHIFT" "I" (.int (0 : Int32))) (sL : Sta Z h0 "java/lang/StringUTF16" "LO_BYTE_SHIFT" "I" (.int (8 : Int32))) (hkp : ∀ (b : Addr) (cl : Cell), Z.heap[b]? = some cl → h0[b]? = some cl) (hcH : Jvm.Lit.constHeld Z "java/lang/String" 7) (hcw : Jvm.Lit.compactW.before av0 Z = true) (hk : own_P p0 (5 : Int32) = (0 : Int32)) :
    MetFree l x (head1 (Jvm.Cond.code x code maxLocals ret :: ws) room_1) (fun aU U => aU = #[(.int p0), (.int p1), (.int p2), (.int p3), (.int p4)] ∧ Z.Warmed39 U.vm ∧ U.heap = h0 ∧ IB Z U.vm []) (fun _ _ _ _ _ => True) (fun _ U oU U' => ∃ vU LU, oU = .returned vU ∧ Qrm0 Z p0 p1 p2 p3 p4 wC fm h0 n0 vU U'.heap LU ∧ ReturnedEndW U oU U' LU room_1.cells room_1.slots) := by
  refine MetFree.of_bodySF (plainFor_of_name pn_XsNamesIsNamespaceNamePinLaw) hisR ?_
  intro p e s m args below meth c s₁ Bd hml0 hP hK
  obtain ⟨rfl, hZ, hh, hI⟩ := hP
  have hml : c.maxLocals = 13 := hml0
  obtain ⟨hx, hby, hown, hnm, X0, e0⟩ := own_start Bd hml0 hh
  have N0 := Fr.nil n0
  have pre0 : ∀ t, oS p e below s₁ (mkF m 0 #[iv p0, iv p1, iv p2, iv p3, iv p4, .unset, .unset, .unset, .unset, .unset, .unset, .unset, .unset] []) t → Steps p.tables e below (s₁.setTop (entryFrame m #[(.int p0), (.int p1), (.int p2), (.int p3), (.int p4)] maxLocals)) t := fun t k => castTop (by first | (simp [entryFrame, mkF, argsToLocals, Value.category, maxLocals]; done) | rfl) k
  obtain ⟨T1, h1, k1, X1, e1, E1, A1, st1⟩ := newP X0 hx hZ (hw _ (own_w 1 rfl)) e0 (g := (mkF m 27 #[iv p0, iv p1, iv p2, iv p3, iv p4, iv 0, iv (own_c p1), iv (own_c p2), iv (own_c p3), iv (own_c p4), .unset, .unset, .unset] [(.int 0)])) rfl (hb hby at_27) rfl (by decide) (cap := 0) (by decide) (by decide) (by decide) (by decide)
  obtain ⟨b1, g1⟩ : ∃ z, z = h0.size := ⟨_, rfl⟩
  rw [← g1] at A1 st1
  have ge_b1 : n0 ≤ b1 := Nat.le_trans Z0 (Nat.le_of_eq g1.symm)
  have sz_b1 : h0.size ≤ b1 := Nat.le_of_eq g1.symm
  have Z1 : n0 ≤ h1.size := Nat.le_trans Z0 E1.1
  have K1 : Keep h0 h1 [] := (Keep.refl h0 []).ext E1
  have V1 : Arv Z h1 b1 k1 .char (0 : Int32) [] (.int (0 : Int32)) := Arv.new A1 (by decide)
  obtain ⟨T2, h2, X2, e2, E2, A2, D2, -, st2⟩ := newO X1 hx hZ hown (hw _ (own_w 2 rfl)) (hw _ (own_w 3 rfl)) (hw _ (own_w 4 rfl)) e1 (g := (mkF m 78 #[iv p0, iv p1, iv p2, iv p3, iv p4, iv 0, iv (own_c p1), iv (own_c p2), iv (own_c p3), iv (own_c p4), rv b1, .unset, .unset] [])) rfl (hb hby at_78) (by decide) (by decide)
  obtain ⟨b2, g2⟩ : ∃ z, z = h1.size := ⟨_, rfl⟩
  rw [← g2] at A2 D2 st2
  have ne_b1_b2 : b1 ≠ b2 := Nat.ne_of_lt (Nat.lt_of_lt_of_le V1.lt (Nat.le_of_eq g2.symm))
  have ge_b2 : n0 ≤ b2 := Nat.le_trans Z1 (Nat.le_of_eq g2.symm)
  have sz_b2 : h0.size ≤ b2 := Nat.le_trans K1.1 (Nat.le_of_eq g2.symm)
  have Z2 : n0 ≤ h2.size := Nat.le_trans Z1 E2.1
  have K2 : Keep h0 h2 [] := K1.ext E2
  have F2_value : Fld Z h2 b2 "java/lang/String" "value" "[B" .null := D2 (Or.inr (hw _ (own_w 17 rfl))) (ty := (.array .byte)) (by decide)
  have F2_coder : Fld Z h2 b2 "java/lang/String" "coder" "B" (.int 0) := D2 (Or.inr (hw _ (own_w 18 rfl))) (ty := .byte) (by decide)
  have f3 := (V1.ext E2)
  have S5 : ∀ t, oS p e below T2 (mkF m 84 #[iv p0, iv p1, iv p2, iv p3, iv p4, iv 0, iv (own_c p1), iv (own_c p2), iv (own_c p3), iv (own_c p4), rv b1, .unset, .unset] [(.ref b1), (.ref b2), (.ref b2)]) t → oS p e below s₁ (mkF m 0 #[iv p0, iv p1, iv p2, iv p3, iv p4, .unset, .unset, .unset, .unset, .unset, .unset, .unset, .unset] []) t := fun t k => id (by
    show oS p e below s₁ (mkF m 0 #[iv p0, iv p1, iv p2, iv p3, iv p4, .unset, .unset, .unset, .unset, .unset, .unset, .unset, .unset] []) _
    refine XS.iloadN X0.here hx rfl (hb hby at_0) rfl ?_
    refine X0.ldcI hx hown (mvT hZ (hw _ (own_w 0 rfl))) rfl (hb hby at_1) ?_
    refine XS.iand X0.here hx rfl (hb hby at_3) rfl ?_
    refine XT.iconstV X0.here hx rfl (5 : Int32) (hb hby at_4) (by decide) ?_
    refine XS.irem X0.here hx rfl (hb hby at_5) rfl (by decide) ?_
    show oS p e below s₁ (mkF m 6 #[iv p0, iv p1, iv p2, iv p3, iv p4, .unset, .unset, .unset, .unset, .unset, .unset, .unset, .unset] [(.int ((p0 &&& (2147483647 : Int32)) - ((p0 &&& (2147483647 : Int32)) / (5 : Int32)) * (5 : Int32)))]) _
    show Steps p.tables e below (s₁.setTop (mkF m 6 #[iv p0, iv p1, iv p2, iv p3, iv p4, .unset, .unset, .unset, .unset, .unset, .unset, .unset, .unset] [(.int (own_P p0 (5 : Int32)))])) _
    rw [hk]
    show oS p e below s₁ (mkF m 6 #[iv p0, iv p1, iv p2, iv p3, iv p4, .unset, .unset, .unset, .unset, .unset, .unset, .unset, .unset] [(.int 0)]) _
    refine XS.istore X0.here hx rfl (hb hby at_6) rfl (l' := #[iv p0, iv p1, iv p2, iv p3, iv p4, iv 0, .unset, .unset, .unset, .unset, .unset, .unset, .unset]) rfl ?_
    refine XS.iloadN X0.here hx rfl (hb hby at_8) rfl ?_
    refine XT.i2c X0.here hx rfl (hb hby at_9) rfl ?_
    show oS p e below s₁ (mkF m 10 #[iv p0, iv p1, iv p2, iv p3, iv p4, iv 0, .unset, .unset, .unset, .unset, .unset, .unset, .unset] [(.int (p1).toUInt32.toUInt16.toUInt32.toInt32)]) _
    skip
    show oS p e below s₁ (mkF m 10 #[iv p0, iv p1, iv p2, iv p3, iv p4, iv 0, .unset, .unset, .unset, .unset, .unset, .unset, .unset] [(.int (own_c p1))]) _
    refine XS.istore X0.here hx rfl (hb hby at_10) rfl (l' := #[iv p0, iv p1, iv p2, iv p3, iv p4, iv 0, iv (own_c p1), .unset, .unset, .unset, .unset, .unset, .unset]) rfl ?_
    refine XS.iloadN X0.here hx rfl (hb hby at_12) rfl ?_
    refine XT.i2c X0.here hx rfl (hb hby at_13) rfl ?_
    show oS p e below s₁ (mkF m 14 #[iv p0, iv p1, iv p2, iv p3, iv p4, iv 0, iv (own_c p1), .unset, .unset, .unset, .unset, .unset, .unset] [(.int (p2).toUInt32.toUInt16.toUInt32.toInt32)]) _
    skip
    show oS p e below s₁ (mkF m 14 #[iv p0, iv p1, iv p2, iv p3, iv p4, iv 0, iv (own_c p1), .unset, .unset, .unset, .unset, .unset, .unset] [(.int (own_c p2))]) _
    refine XS.istore X0.here hx rfl (hb hby at_14) rfl (l' := #[iv p0, iv p1, iv p2, iv p3, iv p4, iv 0, iv (own_c p1), iv (own_c p2), .unset, .unset, .unset, .unset, .unset]) rfl ?_
    refine XS.iloadN X0.here hx rfl (hb hby at_16) rfl ?_
    refine XT.i2c X0.here hx rfl (hb hby at_17) rfl ?_
    show oS p e below s₁ (mkF m 18 #[iv p0, iv p1, iv p2, iv p3, iv p4, iv 0, iv (own_c p1), iv (own_c p2), .unset, .unset, .unset, .unset, .unset] [(.int (p3).toUInt32.toUInt16.toUInt32.toInt32)]) _
    skip
    show oS p e below s₁ (mkF m 18 #[iv p0, iv p1, iv p2, iv p3, iv p4, iv 0, iv (own_c p1), iv (own_c p2), .unset, .unset, .unset, .unset, .unset] [(.int (own_c p3))]) _
    refine XS.istore X0.here hx rfl (hb hby at_18) rfl (l' := #[iv p0, iv p1, iv p2, iv p3, iv p4, iv 0, iv (own_c p1), iv (own_c p2), iv (own_c p3), .unset, .unset, .unset, .unset]) rfl ?_
    refine XS.iload X0.here hx rfl (hb hby at_20) rfl ?_
    show oS p e below s₁ (mkF m 22 #[iv p0, iv p1, iv p2, iv p3, iv p4, iv 0, iv (own_c p1), iv (own_c p2), iv (own_c p3), .unset, .unset, .unset, .unset] [(.int p4)]) _
    refine XT.i2c X0.here hx rfl (hb hby at_22) rfl ?_
    show oS p e below s₁ (mkF m 23 #[iv p0, iv p1, iv p2, iv p3, iv p4, iv 0, iv (own_c p1), iv (own_c p2), iv (own_c p3), .unset, .unset, .unset, .unset] [(.int (p4).toUInt32.toUInt16.toUInt32.toInt32)]) _
    skip
    show oS p e below s₁ (mkF m 23 #[iv p0, iv p1, iv p2, iv p3, iv p4, iv 0, iv (own_c p1), iv (own_c p2), iv (own_c p3), .unset, .unset, .unset, .unset] [(.int (own_c p4))]) _
    refine XS.istore X0.here hx rfl (hb hby at_23) rfl (l' := #[iv p0, iv p1, iv p2, iv p3, iv p4, iv 0, iv (own_c p1), iv (own_c p2), iv (own_c p3), iv (own_c p4), .unset, .unset, .unset]) rfl ?_
    refine XS.iload X0.here hx rfl (hb hby at_25) rfl ?_
    refine st1 _ ?_
    refine XS.astore X1.here hx rfl (hb hby at_29) rfl rfl (l' := #[iv p0, iv p1, iv p2, iv p3, iv p4, iv 0, iv (own_c p1), iv (own_c p2), iv (own_c p3), iv (own_c p4), rv b1, .unset, .unset]) rfl ?_
    refine XS.iload X1.here hx rfl (hb hby at_31) rfl ?_
    refine XS.ifYes X1.here hx rfl (pc0 := 33) (pc' := 42) rfl (hb hby at_33) rfl (XT.i0_le_t (by decide)) (by decide) (by decide) ?_
    refine XS.iload X1.here hx rfl (hb hby at_42) rfl ?_
    refine XT.iconstV X1.here hx rfl (1 : Int32) (hb hby at_44) (by decide) ?_
    refine XS.icmpYes X1.here hx rfl (pc0 := 45) (pc' := 54) rfl (hb hby at_45) rfl (XT.ii_le_t (by decide)) (by decide) (by decide) ?_
    refine XS.iload X1.here hx rfl (hb hby at_54) rfl ?_
    refine XT.iconstV X1.here hx rfl (2 : Int32) (hb hby at_56) (by decide) ?_
    refine XS.icmpYes X1.here hx rfl (pc0 := 57) (pc' := 66) rfl (hb hby at_57) rfl (XT.ii_le_t (by decide)) (by decide) (by decide) ?_
    refine XS.iload X1.here hx rfl (hb hby at_66) rfl ?_
    refine XT.iconstV X1.here hx rfl (3 : Int32) (hb hby at_68) (by decide) ?_
    refine XS.icmpYes X1.here hx rfl (pc0 := 69) (pc' := 78) rfl (hb hby at_69) rfl (XT.ii_le_t (by decide)) (by decide) (by decide) ?_
    refine st2 _ ?_
    refine XS.dup X2.here hx rfl (hb hby at_81) rfl rfl ?_
    refine XS.aload X2.here hx rfl (hb hby at_82) rfl rfl ?_
    show oS p e below T2 (mkF m 84 #[iv p0, iv p1, iv p2, iv p3, iv p4, iv 0, iv (own_c p1), iv (own_c p2), iv (own_c p3), iv (own_c p4), rv b1, .unset, .unset] [(.ref b1), (.ref b2), (.ref b2)]) _
    exact k)
  obtain ⟨_, T4, Lc4, X4, hS4, hQ4, st4⟩ := own_specialI (W := 1) (y := mN3) X2 hx hZ rfl hown (hw _ (own_w 5 rfl)) (hw _ (own_w 6 rfl)) (hw _ (own_w 7 rfl)) (hw _ (own_w 4 rfl)) (by decide) (rmSi2_e l Z av0 hw [] b2 b1 k1 h2 n0 Z2 A2 F2_value F2_coder ge_b2 f3 (fun b cl q => K2.2.1 b cl (hkp b cl q) nin0) hcH hcw) (by decide) (by decide) hI (g := (mkF m 84 #[iv p0, iv p1, iv p2, iv p3, iv p4, iv 0, iv (own_c p1), iv (own_c p2), iv (own_c p3), iv (own_c p4), rv b1, .unset, .unset] [(.ref b1), (.ref b2), (.ref b2)])) rfl (by rw [hml]; rfl) (a := b2) (argsL := [(.ref b1)]) (rest := [(.ref b2)]) (lenOf pd__C_V rfl) rfl (hb hby at_84) rfl e2 (by decide : 2 + 2 ≤ _) (by decide : 4 + 4 ≤ _)
  have hZ := State.Warmed39.trans (t := s) hZ hS4.1
  have hown : (s.setVm T4.vm).vm.findClass x.cls = some m.cls := by rw [show (s.setVm T4.vm).vm = T4.vm from rfl, hS4.1.alike.findClass]; exact hown
  obtain ⟨rfl, N4q, K4, FC4, b4, kb4, FV4, V4⟩ := hQ4
  have N4 := Fr.app N0 N4q
  have e4 : T4.heap = T4.heap := rfl
  have Zk4 : n0 ≤ T4.heap.size := Nat.le_trans Z2 K4.1
  have Kk4 : Keep h0 T4.heap [] := K2.trans K4 (allS (Or.inr sz_b2) all0)
  have f6 := (A2.keep K4)
  have ne_b2_b4 : b2 ≠ b4 := f6.neArv V4 (hw _ (own_w 3 rfl))
  have f7 := (own_stak ((hS.ext E1).ext E2) K4 (allS (own_exns A2) all0))
  have f8 := (own_stak ((hF.ext E1).ext E2) K4 (allS (own_exns A2) all0))
  have f9 := (own_stak ((sA.ext E1).ext E2) K4 (allS (own_exns A2) all0))
  have f10 := (own_stak ((sH.ext E1).ext E2) K4 (allS (own_exns A2) all0))
  have f11 := (own_stak ((sL.ext E1).ext E2) K4 (allS (own_exns A2) all0))
  obtain ⟨_, T12, Lc12, X12, hQ12, st12⟩ := own_callS (W := 0) (y := mN6) X4 hx hZ hown (hw _ (own_w 23 rfl)) (hw _ (own_w 24 rfl)) (hw _ (own_w 25 rfl)) (hw _ (own_w 26 rfl)) (by decide) (rmNs_0 l Z av0 hw [] b2 wC fm  T4.heap n0 Zk4 f6 (Or.inl ⟨b4, _, FV4, FC4, V4⟩) f7 hw0 hfm f8 f9 f10 f11) (by decide) (by decide) (g := (mkF m 154 #[iv p0, iv p1, iv p2, iv p3, iv p4, iv 0, iv (own_c p1), iv (own_c p2), iv (own_c p3), iv (own_c p4), rv b1, rv b2, iv 1] [(.ref b2)])) rfl (by rw [hml]; rfl) (argsL := [(.ref b2)]) (rest := []) (lenOf pd__Ljava_lang_String_Z rfl) rfl (hb hby at_154) rfl e4 (by decide : 4 + 0 ≤ _) (by decide : 8 + 0 ≤ _)
  obtain ⟨rfl, N12q, hh12⟩ := hQ12
  have N12 := Fr.app N4 N12q
  have e12 : T12.heap = T4.heap := hh12
  have S13 : ∀ t, oS p e below T12 (mkF m 167 #[iv p0, iv p1, iv p2, iv p3, iv p4, iv 0, iv (own_c p1), iv (own_c p2), iv (own_c p3), iv (own_c p4), rv b1, rv b2, iv 1] [(.int 1)]) t → oS p e below s₁ (mkF m 0 #[iv p0, iv p1, iv p2, iv p3, iv p4, .unset, .unset, .unset, .unset, .unset, .unset, .unset, .unset] []) t := fun t k => S5 t (by
    show oS p e below T2 (mkF m 84 #[iv p0, iv p1, iv p2, iv p3, iv p4, iv 0, iv (own_c p1), iv (own_c p2), iv (own_c p3), iv (own_c p4), rv b1, .unset, .unset] [(.ref b1), (.ref b2), (.ref b2)]) _
    refine st4 _ ?_
    refine XS.astore X4.here hx rfl (hb hby at_87) rfl rfl (l' := #[iv p0, iv p1, iv p2, iv p3, iv p4, iv 0, iv (own_c p1), iv (own_c p2), iv (own_c p3), iv (own_c p4), rv b1, rv b2, .unset]) rfl ?_
    refine XS.iload X4.here hx rfl (hb hby at_89) rfl ?_
    refine XT.iconstV X4.here hx rfl (1 : Int32) (hb hby at_91) (by decide) ?_
    refine XS.icmpYes X4.here hx rfl (pc0 := 92) (pc' := 103) rfl (hb hby at_92) rfl (XT.ii_lt_t (by decide)) (by decide) (by decide) ?_
    refine XS.iload X4.here hx rfl (hb hby at_103) rfl ?_
    refine XT.iconstV X4.here hx rfl (2 : Int32) (hb hby at_105) (by decide) ?_
    refine XS.icmpYes X4.here hx rfl (pc0 := 106) (pc' := 117) rfl (hb hby at_106) rfl (XT.ii_lt_t (by decide)) (by decide) (by decide) ?_
    refine XS.iload X4.here hx rfl (hb hby at_117) rfl ?_
    refine XT.iconstV X4.here hx rfl (3 : Int32) (hb hby at_119) (by decide) ?_
    refine XS.icmpYes X4.here hx rfl (pc0 := 120) (pc' := 131) rfl (hb hby at_120) rfl (XT.ii_lt_t (by decide)) (by decide) (by decide) ?_
    refine XS.iload X4.here hx rfl (hb hby at_131) rfl ?_
    refine XT.iconstV X4.here hx rfl (4 : Int32) (hb hby at_133) (by decide) ?_
    refine XS.icmpYes X4.here hx rfl (pc0 := 134) (pc' := 145) rfl (hb hby at_134) rfl (XT.ii_lt_t (by decide)) (by decide) (by decide) ?_
    refine XT.iconstV X4.here hx rfl (1 : Int32) (hb hby at_145) (by decide) ?_
    refine XS.goto X4.here hx rfl (pc0 := 146) (pc' := 150) rfl (hb hby at_146) (by decide) (by decide) ?_
    refine XS.istore X4.here hx rfl (hb hby at_150) rfl (l' := #[iv p0, iv p1, iv p2, iv p3, iv p4, iv 0, iv (own_c p1), iv (own_c p2), iv (own_c p3), iv (own_c p4), rv b1, rv b2, iv 1]) rfl ?_
    refine XS.aload X4.here hx rfl (hb hby at_152) rfl rfl ?_
    refine st12 _ ?_
    refine XS.iload X12.here hx rfl (hb hby at_157) rfl ?_
    show oS p e below T12 (mkF m 159 #[iv p0, iv p1, iv p2, iv p3, iv p4, iv 0, iv (own_c p1), iv (own_c p2), iv (own_c p3), iv (own_c p4), rv b1, rv b2, iv 1] [(.int 1), (.int (own_ns []))]) _
    refine XS.icmpNo X12.here hx rfl (hb hby at_159) rfl (XT.ii_ne_f (by simp [own_step, own_end])) ?_
    refine XT.iconstV X12.here hx rfl (1 : Int32) (hb hby at_162) (by decide) ?_
    refine XS.goto X12.here hx rfl (pc0 := 163) (pc' := 167) rfl (hb hby at_163) (by decide) (by decide) ?_
    exact k)
  obtain ⟨fs, hr, hrun, hended, hEnd⟩ := X12.leaveW hS4 (by rw [e12]; exact (Nat.le_refl _)) (v := some (.int 1)) (fun h => by rw [Bd.returns] at h; cases h)
  refine ⟨_, _, pre0 _ (S13 _ ?_), hrun, hended, _, _, rfl, ?_, hEnd.1, hEnd.2.1, hEnd.2.2.1, hEnd.2.2.2.mono (by decide) (by decide)⟩
  · exact retN X12 hx (t := .boolean) Bd.returns (by simp) (hb hby at_167) hr
  · show Qrm0 Z p0 p1 p2 p3 p4 wC fm h0 n0 _ T12.heap _
    rw [e12]
    exact ⟨rfl, N12⟩
def own_St1 (Z : State) (h : Heap) (a : Addr) (c0 : Int32) : Prop := (∃ (b : Addr) (k : ClassId), Fld Z h a "java/lang/String" "value" "[B" (.ref b) ∧ Fld Z h a "java/lang/String" "coder" "B" (.int (0 : Int32)) ∧ Arv Z h b k .byte (1 : Int32) [(.int (own_b c0))] (.int (0 : Int32)) ∧ ¬ (255 : Int32) < c0) ∨ (∃ (b : Addr) (k : ClassId), Fld Z h a "java/lang/String" "value" "[B" (.ref b) ∧ Fld Z h a "java/lang/String" "coder" "B" (.int (1 : Int32)) ∧ Arv Z h b k .byte (2 : Int32) [(.int (own_lo c0)), (.int (own_hi c0))] (.int (0 : Int32)))
theorem own_St1_ext {Z : State} {h h' : Heap} {a o : Addr} {c0 : Int32} (S : own_St1 Z h a c0) (E : Ext h h') : own_St1 Z h' a c0 := by
  rcases S with ⟨b, k, f, g, A, r0⟩ | ⟨b, k, f, g, A⟩
  · exact Or.inl ⟨b, k, f.ext E, g.ext E, A.ext E, r0⟩
  · exact Or.inr ⟨b, k, f.ext E, g.ext E, A.ext E⟩
theorem own_St1_wr {Z : State} {h h' : Heap} {a o : Addr} {c0 : Int32} (S : own_St1 Z h a c0) {sl : Nat} {v : Value} (W : Wr h h' o sl v) (hn : a ≠ o) (hb : ∀ {b k z vs d}, Arv Z h b k .byte z vs d → b ≠ o) : own_St1 Z h' a c0 := by
  rcases S with ⟨b, k, f, g, A, r0⟩ | ⟨b, k, f, g, A⟩
  · exact Or.inl ⟨b, k, f.other W (Or.inl hn), g.other W (Or.inl hn), A.other W (hb A), r0⟩
  · exact Or.inr ⟨b, k, f.other W (Or.inl hn), g.other W (Or.inl hn), A.other W (hb A)⟩
theorem own_St1_k0 {Z : State} {h h' : Heap} {a o : Addr} {c0 : Int32} (S : own_St1 Z h a c0) (K : Keep h h' []) : own_St1 Z h' a c0 := by
  rcases S with ⟨b, k, f, g, A, r0⟩ | ⟨b, k, f, g, A⟩
  · exact Or.inl ⟨b, k, f.keep K nin0, g.keep K nin0, A.keep K nin0, r0⟩
  · exact Or.inr ⟨b, k, f.keep K nin0, g.keep K nin0, A.keep K nin0⟩
theorem own_St1_k1 {Z : State} {h h' : Heap} {a o : Addr} {c0 : Int32} (S : own_St1 Z h a c0) (K : Keep h h' [o]) (hn : a ≠ o) (hb : ∀ {b k z vs d}, Arv Z h b k .byte z vs d → b ≠ o) : own_St1 Z h' a c0 := by
  rcases S with ⟨b, k, f, g, A, r0⟩ | ⟨b, k, f, g, A⟩
  · exact Or.inl ⟨b, k, f.keep K (ninS hn nin0), g.keep K (ninS hn nin0), A.keep K (ninS (hb A) nin0), r0⟩
  · exact Or.inr ⟨b, k, f.keep K (ninS hn nin0), g.keep K (ninS hn nin0), A.keep K (ninS (hb A) nin0)⟩
def QrmLen_1_0 (Z : State) (a0 : Addr) (ab : Addr) (kb : ClassId) (wC : Int32) (c0 : Int32) (h0 : Heap) (n0 : Nat) (v : Option Value) (h : Heap) (L : List Loc) : Prop := v = some (.int (1 : Int32)) ∧ Fr n0 L ∧ h = h0
set_option maxRecDepth 65536 in
set_option maxHeartbeats 40000000 in
theorem rmLen_1_0 (l : Launch) (Z : State) (av0 : Array Value) (hw : ∀ d ∈ tables_1, d.before av0 Z = true) (ws : List Jvm.Cond) (a0 : Addr) (ab : Addr) (kb : ClassId) (wC : Int32) (c0 : Int32) (h0 : Heap) (n0 : Nat) (Z0 : n0 ≤ h0.size) (hE : Exa Z h0 a0 "java/lang/String") (hV : Fld Z h0 a0 "java/lang/String" "value" "[B" (.ref ab)) (hC : Fld Z h0 a0 "java/lang/String" "coder" "B" (.int (0 : Int32))) (hB : Arv Z h0 ab kb .byte (1 : Int32) [(.int (own_b c0))] (.int (0 : Int32))) (hS : Sta Z h0 "java/lang/String" "COMPACT_STRINGS" "Z" (.int wC)) (hw0 : ¬ wC = (0 : Int32)) :
    own_Met l mN5 jdk_42_method_54_code 1 (some .int) ws ({ frames := 1, cells := 0, slots := 0, locals := 13 } : Room) #[(.ref a0)] Z h0 (QrmLen_1_0 Z a0 ab kb wC c0 h0 n0) := by
  refine MetFree.of_bodySF (plainFor_of_name pn_String) hisR ?_
  intro p e s m args below meth c s₁ Bd hml0 hP hK
  obtain ⟨rfl, hZ, hh⟩ := hP
  have hml : c.maxLocals = 1 := hml0
  obtain ⟨hx, hby, hown, hnm, X0, e0⟩ := own_start Bd hml0 hh
  have N0 := Fr.nil n0
  have pre0 : ∀ t, oS p e below s₁ (mkF m 0 #[rv a0] []) t → Steps p.tables e below (s₁.setTop (entryFrame m #[(.ref a0)] 1)) t := fun t k => castTop (by first | (simp [entryFrame, mkF, argsToLocals, Value.category]; done) | rfl) k
  obtain ⟨T1, X1, e1, st1⟩ := getF X0 hx hZ hown (host := "") (Or.inl (hw _ (own_w 21 rfl))) Via.refl e0 hV (g := (mkF m 1 #[rv a0] [(.ref a0)])) rfl rfl (hb hby d5_1)
  obtain ⟨cl2, Ar2, qk2, Sz2, Ng2, Hs2, Gs2⟩ := id hB
  obtain ⟨_, T3, Lc3, X3, hQ3, st3⟩ := own_virtual (W := 1) (y := mN4) (z := mN4) X1 hx hZ hown (hw _ (own_w 32 rfl)) (hw _ (own_w 33 rfl)) (notFace_of_selects (args := #[]) (mvT hZ (hw _ (own_w 35 rfl)))) (hw _ (own_w 35 rfl)) (hw _ (own_w 34 rfl)) (hw _ (own_w 36 rfl)) (hw _ (own_w 4 rfl)) (by decide) (rmCoder_0 l Z av0 hw [] a0 wC h0 n0 Z0 hS hw0 hC) (by decide) (by decide) hE (g := (mkF m 6 #[rv a0] [(.ref a0), (.int 1)])) rfl (by rw [hml]; rfl) (argsL := []) (rest := [(.int 1)]) (lenOf pd__B rfl) rfl (hb hby d5_6) rfl e1 (by decide : 0 + 0 ≤ _) (by decide : 0 + 0 ≤ _)
  obtain ⟨rfl, N3q, hh3⟩ := hQ3
  have N3 := Fr.app N0 N3q
  have e3 : T3.heap = h0 := hh3
  have S4 : ∀ t, oS p e below T3 (mkF m 10 #[rv a0] [(.int 1)]) t → oS p e below s₁ (mkF m 0 #[rv a0] []) t := fun t k => id (by
    show oS p e below s₁ (mkF m 0 #[rv a0] []) _
    refine XS.aloadN X0.here hx rfl (hb hby d5_0) rfl rfl ?_
    refine st1 _ ?_
    refine X1.arraylength hx (by rw [e1]; exact Ar2.1) (State.isArrayOf_alike hZ.alike Ar2.2.1) (g := (mkF m 4 #[rv a0] [(.ref ab)])) rfl rfl (hb hby d5_4) _ ?_
    rw [len_of Sz2 Ng2]
    refine XS.aloadN X1.here hx rfl (hb hby d5_5) rfl rfl ?_
    refine st3 _ ?_
    refine XT.ishr X3.here hx rfl (hb hby d5_9) rfl ?_
    exact k)
  obtain ⟨fs, hr, hrun, hended, hW, hsame⟩ := X3.leave (v := some (.int 1)) (fun h => by rw [Bd.returns] at h; cases h)
  refine ⟨_, _, pre0 _ (S4 _ ?_), hrun, hended, _, _, rfl, ?_, ⟨_, rfl⟩, hW, hsame.mono (by decide) (by decide)⟩
  · exact retI X3 hx Bd.returns (hb hby d5_10) hr
  · show QrmLen_1_0 Z a0 ab kb wC c0 h0 n0 _ T3.heap _
    rw [e3]
    exact ⟨congrArg (fun z => some (Value.int z)) (by decide), N3, rfl⟩
def QrmLen_1_1 (Z : State) (a0 : Addr) (ab : Addr) (kb : ClassId) (wC : Int32) (c0 : Int32) (h0 : Heap) (n0 : Nat) (v : Option Value) (h : Heap) (L : List Loc) : Prop := v = some (.int (1 : Int32)) ∧ Fr n0 L ∧ h = h0
set_option maxRecDepth 65536 in
set_option maxHeartbeats 40000000 in
theorem rmLen_1_1 (l : Launch) (Z : State) (av0 : Array Value) (hw : ∀ d ∈ tables_1, d.before av0 Z = true) (ws : List Jvm.Cond) (a0 : Addr) (ab : Addr) (kb : ClassId) (wC : Int32) (c0 : Int32) (h0 : Heap) (n0 : Nat) (Z0 : n0 ≤ h0.size) (hE : Exa Z h0 a0 "java/lang/String") (hV : Fld Z h0 a0 "java/lang/String" "value" "[B" (.ref ab)) (hC : Fld Z h0 a0 "java/lang/String" "coder" "B" (.int (1 : Int32))) (hB : Arv Z h0 ab kb .byte (2 : Int32) [(.int (own_lo c0)), (.int (own_hi c0))] (.int (0 : Int32))) (hS : Sta Z h0 "java/lang/String" "COMPACT_STRINGS" "Z" (.int wC)) (hw0 : ¬ wC = (0 : Int32)) :
    own_Met l mN5 jdk_42_method_54_code 1 (some .int) ws ({ frames := 1, cells := 0, slots := 0, locals := 13 } : Room) #[(.ref a0)] Z h0 (QrmLen_1_1 Z a0 ab kb wC c0 h0 n0) := by
  refine MetFree.of_bodySF (plainFor_of_name pn_String) hisR ?_
  intro p e s m args below meth c s₁ Bd hml0 hP hK
  obtain ⟨rfl, hZ, hh⟩ := hP
  have hml : c.maxLocals = 1 := hml0
  obtain ⟨hx, hby, hown, hnm, X0, e0⟩ := own_start Bd hml0 hh
  have N0 := Fr.nil n0
  have pre0 : ∀ t, oS p e below s₁ (mkF m 0 #[rv a0] []) t → Steps p.tables e below (s₁.setTop (entryFrame m #[(.ref a0)] 1)) t := fun t k => castTop (by first | (simp [entryFrame, mkF, argsToLocals, Value.category]; done) | rfl) k
  obtain ⟨T1, X1, e1, st1⟩ := getF X0 hx hZ hown (host := "") (Or.inl (hw _ (own_w 21 rfl))) Via.refl e0 hV (g := (mkF m 1 #[rv a0] [(.ref a0)])) rfl rfl (hb hby d5_1)
  obtain ⟨cl2, Ar2, qk2, Sz2, Ng2, Hs2, Gs2⟩ := id hB
  obtain ⟨_, T3, Lc3, X3, hQ3, st3⟩ := own_virtual (W := 1) (y := mN4) (z := mN4) X1 hx hZ hown (hw _ (own_w 32 rfl)) (hw _ (own_w 33 rfl)) (notFace_of_selects (args := #[]) (mvT hZ (hw _ (own_w 35 rfl)))) (hw _ (own_w 35 rfl)) (hw _ (own_w 34 rfl)) (hw _ (own_w 36 rfl)) (hw _ (own_w 4 rfl)) (by decide) (rmCoder_1 l Z av0 hw [] a0 wC h0 n0 Z0 hS hw0 hC) (by decide) (by decide) hE (g := (mkF m 6 #[rv a0] [(.ref a0), (.int 2)])) rfl (by rw [hml]; rfl) (argsL := []) (rest := [(.int 2)]) (lenOf pd__B rfl) rfl (hb hby d5_6) rfl e1 (by decide : 0 + 0 ≤ _) (by decide : 0 + 0 ≤ _)
  obtain ⟨rfl, N3q, hh3⟩ := hQ3
  have N3 := Fr.app N0 N3q
  have e3 : T3.heap = h0 := hh3
  have S4 : ∀ t, oS p e below T3 (mkF m 10 #[rv a0] [(.int 1)]) t → oS p e below s₁ (mkF m 0 #[rv a0] []) t := fun t k => id (by
    show oS p e below s₁ (mkF m 0 #[rv a0] []) _
    refine XS.aloadN X0.here hx rfl (hb hby d5_0) rfl rfl ?_
    refine st1 _ ?_
    refine X1.arraylength hx (by rw [e1]; exact Ar2.1) (State.isArrayOf_alike hZ.alike Ar2.2.1) (g := (mkF m 4 #[rv a0] [(.ref ab)])) rfl rfl (hb hby d5_4) _ ?_
    rw [len_of Sz2 Ng2]
    refine XS.aloadN X1.here hx rfl (hb hby d5_5) rfl rfl ?_
    refine st3 _ ?_
    refine XT.ishr X3.here hx rfl (hb hby d5_9) rfl ?_
    exact k)
  obtain ⟨fs, hr, hrun, hended, hW, hsame⟩ := X3.leave (v := some (.int 1)) (fun h => by rw [Bd.returns] at h; cases h)
  refine ⟨_, _, pre0 _ (S4 _ ?_), hrun, hended, _, _, rfl, ?_, ⟨_, rfl⟩, hW, hsame.mono (by decide) (by decide)⟩
  · exact retI X3 hx Bd.returns (hb hby d5_10) hr
  · show QrmLen_1_1 Z a0 ab kb wC c0 h0 n0 _ T3.heap _
    rw [e3]
    exact ⟨congrArg (fun z => some (Value.int z)) (by decide), N3, rfl⟩
theorem rmLenJ_1 (l : Launch) (Z : State) (av0 : Array Value) (hw : ∀ d ∈ tables_1, d.before av0 Z = true) (ws : List Jvm.Cond) (a0 : Addr) (wC : Int32) (fm : Value) (c0 : Int32) (h0 : Heap) (n0 : Nat) (Z0 : n0 ≤ h0.size) (hE : Exa Z h0 a0 "java/lang/String") (hSt : own_St1 Z h0 a0 c0) (hS : Sta Z h0 "java/lang/String" "COMPACT_STRINGS" "Z" (.int wC)) (hw0 : ¬ wC = (0 : Int32))  :
    own_Met l mN5 jdk_42_method_54_code 1 (some .int) ws ({ frames := 1, cells := 0, slots := 0, locals := 13 } : Room) #[(.ref a0)] Z h0 (fun v h L => v = some (.int (1 : Int32)) ∧ Fr n0 L ∧ h = h0) := by
  rcases hSt with ⟨ab, kb, hV, hC, hB, lt0⟩ | ⟨ab, kb, hV, hC, hB⟩
  · exact rmLen_1_0 l Z av0 hw ws a0 ab kb wC c0 h0 n0 Z0 hE hV hC hB hS hw0
  · exact rmLen_1_1 l Z av0 hw ws a0 ab kb wC c0 h0 n0 Z0 hE hV hC hB hS hw0
theorem d15_0 : decode jdk_41_method_11_code 0 = .ok (.iload_n 0, 1) := by decide +kernel
theorem d15_1 : decode jdk_41_method_11_code 1 = .ok (.ifCond .lt 8, 3) := by decide +kernel
theorem d15_4 : decode jdk_41_method_11_code 4 = .ok (.iload_n 0, 1) := by decide +kernel
theorem d15_5 : decode jdk_41_method_11_code 5 = .ok (.iload_n 1, 1) := by decide +kernel
theorem d15_6 : decode jdk_41_method_11_code 6 = .ok (.if_icmp .lt 10, 3) := by decide +kernel
theorem d15_16 : decode jdk_41_method_11_code 16 = .ok (.iload_n 0, 1) := by decide +kernel
theorem d15_17 : decode jdk_41_method_11_code 17 = .ok (.ireturn, 1) := by decide +kernel
theorem pn_Preconditions : plainName "jdk/internal/util/Preconditions" = true := by first | (simp [plainName, overriddenIn]; done) | decide +kernel
def QrmPcin (Z : State) (p0 : Int32) (p1 : Int32) (h0 : Heap) (n0 : Nat) (v : Option Value) (h : Heap) (L : List Loc) : Prop := v = some (.int p0) ∧ Fr n0 L ∧ h = h0
set_option maxRecDepth 65536 in
set_option maxHeartbeats 40000000 in
theorem rmPcin (l : Launch) (Z : State) (av0 : Array Value) (hw : ∀ d ∈ tables_1, d.before av0 Z = true) (ws : List Jvm.Cond) (p0 : Int32) (p1 : Int32) (h0 : Heap) (n0 : Nat) (Z0 : n0 ≤ h0.size) (h1 : ¬ p0 < (0 : Int32)) (h2 : p0 < p1) :
    own_Met l mN7 jdk_41_method_11_code 3 (some .int) ws ({ frames := 0, cells := 0, slots := 0, locals := 0 } : Room) #[(.int p0), (.int p1), .null] Z h0 (QrmPcin Z p0 p1 h0 n0) := by
  refine MetFree.of_bodySF (plainFor_of_name pn_Preconditions) hisR ?_
  intro p e s m args below meth c s₁ Bd hml0 hP hK
  obtain ⟨rfl, hZ, hh⟩ := hP
  have hml : c.maxLocals = 3 := hml0
  obtain ⟨hx, hby, hown, hnm, X0, e0⟩ := own_start Bd hml0 hh
  have N0 := Fr.nil n0
  have pre0 : ∀ t, oS p e below s₁ (mkF m 0 #[iv p0, iv p1, .val .null] []) t → Steps p.tables e below (s₁.setTop (entryFrame m #[(.int p0), (.int p1), .null] 3)) t := fun t k => castTop (by first | (simp [entryFrame, mkF, argsToLocals, Value.category]; done) | rfl) k
  have S1 : ∀ t, oS p e below s₁ (mkF m 17 #[iv p0, iv p1, .val .null] [(.int p0)]) t → oS p e below s₁ (mkF m 0 #[iv p0, iv p1, .val .null] []) t := fun t k => id (by
    show oS p e below s₁ (mkF m 0 #[iv p0, iv p1, .val .null] []) _
    refine XS.iloadN X0.here hx rfl (hb hby d15_0) rfl ?_
    refine XS.ifNo X0.here hx rfl (hb hby d15_1) rfl (XT.i0_lt_f h1) ?_
    refine XS.iloadN X0.here hx rfl (hb hby d15_4) rfl ?_
    refine XS.iloadN X0.here hx rfl (hb hby d15_5) rfl ?_
    refine XS.icmpYes X0.here hx rfl (pc0 := 6) (pc' := 16) rfl (hb hby d15_6) rfl (XT.ii_lt_t h2) (by decide) (by decide) ?_
    refine XS.iloadN X0.here hx rfl (hb hby d15_16) rfl ?_
    exact k)
  obtain ⟨fs, hr, hrun, hended, hW, hsame⟩ := X0.leave (v := some (.int p0)) (fun h => by rw [Bd.returns] at h; cases h)
  refine ⟨_, _, pre0 _ (S1 _ ?_), hrun, hended, _, _, rfl, ?_, ⟨_, rfl⟩, hW, hsame.mono (by decide) (by decide)⟩
  · exact retI X0 hx Bd.returns (hb hby d15_17) hr
  · show QrmPcin Z p0 p1 h0 n0 _ s₁.heap _
    rw [e0]
    exact ⟨rfl, N0, rfl⟩
def Qsci (Z : State) (p0 p1 : Int32) (h0 : Heap) (n0 : Nat) (v : Option Value) (h : Heap) (L : List Loc) : Prop := v = none ∧ Fr n0 L ∧ h = h0
theorem d14_0 : decode jdk_42_method_155_code 0 = .ok (.iload_n 0, 1) := by decide +kernel
theorem d14_1 : decode jdk_42_method_155_code 1 = .ok (.iload_n 1, 1) := by decide +kernel
theorem d14_2 : decode jdk_42_method_155_code 2 = .ok (.getstatic 1053, 3) := by decide +kernel
theorem d14_5 : decode jdk_42_method_155_code 5 = .ok (.invokestatic 1059, 3) := by decide +kernel
theorem d14_8 : decode jdk_42_method_155_code 8 = .ok (.pop, 1) := by decide +kernel
theorem d14_9 : decode jdk_42_method_155_code 9 = .ok (.return_, 1) := by decide +kernel
theorem pd__IILjava_util_function_BiFunction_I : parseMethodDescriptor "(IILjava/util/function/BiFunction;)I" = some ⟨[.int, .int, (.object "java/util/function/BiFunction")], some .int⟩ := by decide +kernel
set_option maxRecDepth 65536 in
set_option maxHeartbeats 40000000 in
theorem rmScin (l : Launch) (Z : State) (av0 : Array Value) (hw : ∀ d ∈ tables_1, d.before av0 Z = true) (ws : List Jvm.Cond) (p0 : Int32) (p1 : Int32) (h0 : Heap) (n0 : Nat) (Z0 : n0 ≤ h0.size) (hF : Sta Z h0 "jdk/internal/util/Preconditions" "SIOOBE_FORMATTER" "Ljava/util/function/BiFunction;" .null) (h1 : ¬ p0 < (0 : Int32)) (h2 : p0 < p1) :
    own_Met l mN8 jdk_42_method_155_code 2 none ws ({ frames := 1, cells := 0, slots := 0, locals := 14 } : Room) #[(.int p0), (.int p1)] Z h0 (Qsci Z p0 p1 h0 n0) := by
  refine MetFree.of_bodySF (plainFor_of_name pn_String) hisR ?_
  intro p e s m args below meth c s₁ Bd hml0 hP hK
  obtain ⟨rfl, hZ, hh⟩ := hP
  have hml : c.maxLocals = 2 := hml0
  obtain ⟨hx, hby, hown, hnm, X0, e0⟩ := own_start Bd hml0 hh
  have N0 := Fr.nil n0
  have pre0 : ∀ t, oS p e below s₁ (mkF m 0 #[iv p0, iv p1] []) t → Steps p.tables e below (s₁.setTop (entryFrame m #[(.int p0), (.int p1)] 2)) t := fun t k => castTop (by first | (simp [entryFrame, mkF, argsToLocals, Value.category]; done) | rfl) k
  obtain ⟨T1, X1, e1, st1⟩ := getS2 X0 hx hZ hown (host := "") (Or.inl (hw _ (own_w 69 rfl))) Via.refl e0 hF (g := (mkF m 2 #[iv p0, iv p1] [(.int p1), (.int p0)])) rfl (hb hby d14_2)
  obtain ⟨_, T2, Lc2, X2, hQ2, st2⟩ := own_callS (W := 0) (y := mN7) X1 hx hZ hown (hw _ (own_w 71 rfl)) (hw _ (own_w 72 rfl)) (hw _ (own_w 70 rfl)) (hw _ (own_w 73 rfl)) (by decide) (rmPcin l Z av0 hw [] p0 p1  h0 n0 Z0 h1 h2) (by decide) (by decide) (g := (mkF m 5 #[iv p0, iv p1] [.null, (.int p1), (.int p0)])) rfl (by rw [hml]; rfl) (argsL := [(.int p0), (.int p1), .null]) (rest := []) (lenOf pd__IILjava_util_function_BiFunction_I rfl) rfl (hb hby d14_5) rfl e1 (by decide : 0 + 0 ≤ _) (by decide : 0 + 0 ≤ _)
  obtain ⟨rfl, N2q, hh2⟩ := hQ2
  have N2 := Fr.app N0 N2q
  have e2 : T2.heap = h0 := hh2
  have S3 : ∀ t, oS p e below T2 (mkF m 9 #[iv p0, iv p1] []) t → oS p e below s₁ (mkF m 0 #[iv p0, iv p1] []) t := fun t k => id (by
    show oS p e below s₁ (mkF m 0 #[iv p0, iv p1] []) _
    refine XS.iloadN X0.here hx rfl (hb hby d14_0) rfl ?_
    refine XS.iloadN X0.here hx rfl (hb hby d14_1) rfl ?_
    refine st1 _ ?_
    refine st2 _ ?_
    refine XT.pop X2.here hx rfl (hb hby d14_8) rfl rfl ?_
    exact k)
  obtain ⟨fs, hr, hrun, hended, hW, hsame⟩ := X2.leave (v := none) (fun _ => rfl)
  refine ⟨_, _, pre0 _ (S3 _ ?_), hrun, hended, _, _, rfl, ?_, ⟨_, rfl⟩, hW, hsame.mono (by decide) (by decide)⟩
  · exact X2.returnOut hx Bd.returns (hb hby d14_9) hr
  · show Qsci Z p0 p1 h0 n0 _ T2.heap _
    rw [e2]
    exact ⟨rfl, N2, rfl⟩
def QrmPcir (Z : State) (p0 : Int32) (p1 : Int32) (aF : Addr) (h0 : Heap) (n0 : Nat) (v : Option Value) (h : Heap) (L : List Loc) : Prop := v = some (.int p0) ∧ Fr n0 L ∧ h = h0
set_option maxRecDepth 65536 in
set_option maxHeartbeats 40000000 in
theorem rmPcir (l : Launch) (Z : State) (av0 : Array Value) (hw : ∀ d ∈ tables_1, d.before av0 Z = true) (ws : List Jvm.Cond) (p0 : Int32) (p1 : Int32) (aF : Addr) (h0 : Heap) (n0 : Nat) (Z0 : n0 ≤ h0.size) (h1 : ¬ p0 < (0 : Int32)) (h2 : p0 < p1) :
    own_Met l mN7 jdk_41_method_11_code 3 (some .int) ws ({ frames := 0, cells := 0, slots := 0, locals := 0 } : Room) #[(.int p0), (.int p1), (.ref aF)] Z h0 (QrmPcir Z p0 p1 aF h0 n0) := by
  refine MetFree.of_bodySF (plainFor_of_name pn_Preconditions) hisR ?_
  intro p e s m args below meth c s₁ Bd hml0 hP hK
  obtain ⟨rfl, hZ, hh⟩ := hP
  have hml : c.maxLocals = 3 := hml0
  obtain ⟨hx, hby, hown, hnm, X0, e0⟩ := own_start Bd hml0 hh
  have N0 := Fr.nil n0
  have pre0 : ∀ t, oS p e below s₁ (mkF m 0 #[iv p0, iv p1, rv aF] []) t → Steps p.tables e below (s₁.setTop (entryFrame m #[(.int p0), (.int p1), (.ref aF)] 3)) t := fun t k => castTop (by first | (simp [entryFrame, mkF, argsToLocals, Value.category]; done) | rfl) k
  have S1 : ∀ t, oS p e below s₁ (mkF m 17 #[iv p0, iv p1, rv aF] [(.int p0)]) t → oS p e below s₁ (mkF m 0 #[iv p0, iv p1, rv aF] []) t := fun t k => id (by
    show oS p e below s₁ (mkF m 0 #[iv p0, iv p1, rv aF] []) _
    refine XS.iloadN X0.here hx rfl (hb hby d15_0) rfl ?_
    refine XS.ifNo X0.here hx rfl (hb hby d15_1) rfl (XT.i0_lt_f h1) ?_
    refine XS.iloadN X0.here hx rfl (hb hby d15_4) rfl ?_
    refine XS.iloadN X0.here hx rfl (hb hby d15_5) rfl ?_
    refine XS.icmpYes X0.here hx rfl (pc0 := 6) (pc' := 16) rfl (hb hby d15_6) rfl (XT.ii_lt_t h2) (by decide) (by decide) ?_
    refine XS.iloadN X0.here hx rfl (hb hby d15_16) rfl ?_
    exact k)
  obtain ⟨fs, hr, hrun, hended, hW, hsame⟩ := X0.leave (v := some (.int p0)) (fun h => by rw [Bd.returns] at h; cases h)
  refine ⟨_, _, pre0 _ (S1 _ ?_), hrun, hended, _, _, rfl, ?_, ⟨_, rfl⟩, hW, hsame.mono (by decide) (by decide)⟩
  · exact retI X0 hx Bd.returns (hb hby d15_17) hr
  · show QrmPcir Z p0 p1 aF h0 n0 _ s₁.heap _
    rw [e0]
    exact ⟨rfl, N0, rfl⟩
set_option maxRecDepth 65536 in
set_option maxHeartbeats 40000000 in
theorem rmScir (l : Launch) (Z : State) (av0 : Array Value) (hw : ∀ d ∈ tables_1, d.before av0 Z = true) (ws : List Jvm.Cond) (p0 : Int32) (p1 : Int32) (aF : Addr) (h0 : Heap) (n0 : Nat) (Z0 : n0 ≤ h0.size) (hF : Sta Z h0 "jdk/internal/util/Preconditions" "SIOOBE_FORMATTER" "Ljava/util/function/BiFunction;" (.ref aF)) (h1 : ¬ p0 < (0 : Int32)) (h2 : p0 < p1) :
    own_Met l mN8 jdk_42_method_155_code 2 none ws ({ frames := 1, cells := 0, slots := 0, locals := 14 } : Room) #[(.int p0), (.int p1)] Z h0 (Qsci Z p0 p1 h0 n0) := by
  refine MetFree.of_bodySF (plainFor_of_name pn_String) hisR ?_
  intro p e s m args below meth c s₁ Bd hml0 hP hK
  obtain ⟨rfl, hZ, hh⟩ := hP
  have hml : c.maxLocals = 2 := hml0
  obtain ⟨hx, hby, hown, hnm, X0, e0⟩ := own_start Bd hml0 hh
  have N0 := Fr.nil n0
  have pre0 : ∀ t, oS p e below s₁ (mkF m 0 #[iv p0, iv p1] []) t → Steps p.tables e below (s₁.setTop (entryFrame m #[(.int p0), (.int p1)] 2)) t := fun t k => castTop (by first | (simp [entryFrame, mkF, argsToLocals, Value.category]; done) | rfl) k
  obtain ⟨T1, X1, e1, st1⟩ := getS2 X0 hx hZ hown (host := "") (Or.inl (hw _ (own_w 69 rfl))) Via.refl e0 hF (g := (mkF m 2 #[iv p0, iv p1] [(.int p1), (.int p0)])) rfl (hb hby d14_2)
  obtain ⟨_, T2, Lc2, X2, hQ2, st2⟩ := own_callS (W := 0) (y := mN7) X1 hx hZ hown (hw _ (own_w 71 rfl)) (hw _ (own_w 72 rfl)) (hw _ (own_w 70 rfl)) (hw _ (own_w 73 rfl)) (by decide) (rmPcir l Z av0 hw [] p0 p1 aF h0 n0 Z0 h1 h2) (by decide) (by decide) (g := (mkF m 5 #[iv p0, iv p1] [(.ref aF), (.int p1), (.int p0)])) rfl (by rw [hml]; rfl) (argsL := [(.int p0), (.int p1), (.ref aF)]) (rest := []) (lenOf pd__IILjava_util_function_BiFunction_I rfl) rfl (hb hby d14_5) rfl e1 (by decide : 0 + 0 ≤ _) (by decide : 0 + 0 ≤ _)
  obtain ⟨rfl, N2q, hh2⟩ := hQ2
  have N2 := Fr.app N0 N2q
  have e2 : T2.heap = h0 := hh2
  have S3 : ∀ t, oS p e below T2 (mkF m 9 #[iv p0, iv p1] []) t → oS p e below s₁ (mkF m 0 #[iv p0, iv p1] []) t := fun t k => id (by
    show oS p e below s₁ (mkF m 0 #[iv p0, iv p1] []) _
    refine XS.iloadN X0.here hx rfl (hb hby d14_0) rfl ?_
    refine XS.iloadN X0.here hx rfl (hb hby d14_1) rfl ?_
    refine st1 _ ?_
    refine st2 _ ?_
    refine XT.pop X2.here hx rfl (hb hby d14_8) rfl rfl ?_
    exact k)
  obtain ⟨fs, hr, hrun, hended, hW, hsame⟩ := X2.leave (v := none) (fun _ => rfl)
  refine ⟨_, _, pre0 _ (S3 _ ?_), hrun, hended, _, _, rfl, ?_, ⟨_, rfl⟩, hW, hsame.mono (by decide) (by decide)⟩
  · exact X2.returnOut hx Bd.returns (hb hby d14_9) hr
  · show Qsci Z p0 p1 h0 n0 _ T2.heap _
    rw [e2]
    exact ⟨rfl, N2, rfl⟩
theorem rmSci (l : Launch) (Z : State) (av0 : Array Value) (hw : ∀ d ∈ tables_1, d.before av0 Z = true) (ws : List Jvm.Cond) (p0 p1 : Int32) (fm : Value) (h0 : Heap) (n0 : Nat) (Z0 : n0 ≤ h0.size) (hfm : fm.isRef = true) (hF : Sta Z h0 "jdk/internal/util/Preconditions" "SIOOBE_FORMATTER" "Ljava/util/function/BiFunction;" fm) (h1 : ¬ p0 < (0 : Int32)) (h2 : p0 < p1) :
    MetFree l mN8 (head1 (Jvm.Cond.code mN8 jdk_42_method_155_code 2 none :: ws) ({ frames := 1, cells := 0, slots := 0, locals := 14 } : Room)) (fun aU U => aU = #[(.int p0), (.int p1)] ∧ Z.Warmed39 U.vm ∧ U.heap = h0) (fun _ _ _ _ _ => True) (fun _ U oU U' => ∃ vU LU, oU = .returned vU ∧ Qsci Z p0 p1 h0 n0 vU U'.heap LU ∧ FrameEnd U oU U' LU ({ frames := 1, cells := 0, slots := 0, locals := 14 } : Room).cells ({ frames := 1, cells := 0, slots := 0, locals := 14 } : Room).slots) := by
  rcases ref_cases hfm with rfl | ⟨aF, rfl⟩
  · exact rmScin l Z av0 hw ws p0 p1 h0 n0 Z0 hF h1 h2
  · exact rmScir l Z av0 hw ws p0 p1 aF h0 n0 Z0 hF h1 h2
theorem d12_0 : decode jdk_42_method_154_code 0 = .ok (.getstatic 38, 3) := by decide +kernel
theorem d12_3 : decode jdk_42_method_154_code 3 = .ok (.ifCond .eq 14, 3) := by decide +kernel
theorem d12_6 : decode jdk_42_method_154_code 6 = .ok (.aload_n 0, 1) := by decide +kernel
theorem d12_7 : decode jdk_42_method_154_code 7 = .ok (.getfield 15, 3) := by decide +kernel
theorem d12_10 : decode jdk_42_method_154_code 10 = .ok (.ifCond .ne 7, 3) := by decide +kernel
theorem d12_17 : decode jdk_42_method_154_code 17 = .ok (.iconst 0, 1) := by decide +kernel
theorem d12_18 : decode jdk_42_method_154_code 18 = .ok (.ireturn, 1) := by decide +kernel
def QrmLat_1 (Z : State) (a0 : Addr) (wC : Int32) (h0 : Heap) (n0 : Nat) (v : Option Value) (h : Heap) (L : List Loc) : Prop := v = some (.int 0) ∧ Fr n0 L ∧ h = h0
set_option maxRecDepth 65536 in
set_option maxHeartbeats 40000000 in
theorem rmLat_1 (l : Launch) (Z : State) (av0 : Array Value) (hw : ∀ d ∈ tables_1, d.before av0 Z = true) (ws : List Jvm.Cond) (a0 : Addr) (wC : Int32) (h0 : Heap) (n0 : Nat) (Z0 : n0 ≤ h0.size) (hS : Sta Z h0 "java/lang/String" "COMPACT_STRINGS" "Z" (.int wC)) (hw0 : ¬ wC = (0 : Int32)) (hC : Fld Z h0 a0 "java/lang/String" "coder" "B" (.int (1 : Int32))) :
    own_Met l mN9 jdk_42_method_154_code 1 (some .boolean) ws ({ frames := 0, cells := 0, slots := 0, locals := 0 } : Room) #[(.ref a0)] Z h0 (QrmLat_1 Z a0 wC h0 n0) := by
  refine MetFree.of_bodySF (plainFor_of_name pn_String) hisR ?_
  intro p e s m args below meth c s₁ Bd hml0 hP hK
  obtain ⟨rfl, hZ, hh⟩ := hP
  have hml : c.maxLocals = 1 := hml0
  obtain ⟨hx, hby, hown, hnm, X0, e0⟩ := own_start Bd hml0 hh
  have N0 := Fr.nil n0
  have pre0 : ∀ t, oS p e below s₁ (mkF m 0 #[rv a0] []) t → Steps p.tables e below (s₁.setTop (entryFrame m #[(.ref a0)] 1)) t := fun t k => castTop (by first | (simp [entryFrame, mkF, argsToLocals, Value.category]; done) | rfl) k
  obtain ⟨T1, X1, e1, st1⟩ := getS2 X0 hx hZ hown (host := "") (Or.inl (hw _ (own_w 37 rfl))) Via.refl e0 hS (g := (mkF m 0 #[rv a0] [])) rfl (hb hby d12_0)
  obtain ⟨T2, X2, e2, st2⟩ := getF X1 hx hZ hown (host := "") (Or.inl (hw _ (own_w 22 rfl))) Via.refl e1 hC (g := (mkF m 7 #[rv a0] [(.ref a0)])) rfl rfl (hb hby d12_7)
  have S3 : ∀ t, oS p e below T2 (mkF m 18 #[rv a0] [(.int 0)]) t → oS p e below s₁ (mkF m 0 #[rv a0] []) t := fun t k => id (by
    show oS p e below s₁ (mkF m 0 #[rv a0] []) _
    refine st1 _ ?_
    refine XS.ifNo X1.here hx rfl (hb hby d12_3) rfl (XT.i0_eq_f hw0) ?_
    refine XS.aloadN X1.here hx rfl (hb hby d12_6) rfl rfl ?_
    refine st2 _ ?_
    refine XS.ifYes X2.here hx rfl (pc0 := 10) (pc' := 17) rfl (hb hby d12_10) rfl (XT.i0_ne_t (by decide)) (by decide) (by decide) ?_
    refine XT.iconstV X2.here hx rfl (0 : Int32) (hb hby d12_17) (by decide) ?_
    exact k)
  obtain ⟨fs, hr, hrun, hended, hW, hsame⟩ := X2.leave (v := some (.int 0)) (fun h => by rw [Bd.returns] at h; cases h)
  refine ⟨_, _, pre0 _ (S3 _ ?_), hrun, hended, _, _, rfl, ?_, ⟨_, rfl⟩, hW, hsame.mono (by decide) (by decide)⟩
  · exact retN X2 hx (t := .boolean) Bd.returns (by simp) (hb hby d12_18) hr
  · show QrmLat_1 Z a0 wC h0 n0 _ T2.heap _
    rw [e2]
    exact ⟨congrArg (fun z => some (Value.int z)) (by decide), N0, rfl⟩
theorem d24_0 : decode jdk_52_method_6_code 0 = .ok (.aload_n 0, 1) := by decide +kernel
theorem d24_1 : decode jdk_52_method_6_code 1 = .ok (.arraylength, 1) := by decide +kernel
theorem d24_2 : decode jdk_52_method_6_code 2 = .ok (.iconst 1, 1) := by decide +kernel
theorem d24_3 : decode jdk_52_method_6_code 3 = .ok (.ishr, 1) := by decide +kernel
theorem d24_4 : decode jdk_52_method_6_code 4 = .ok (.ireturn, 1) := by decide +kernel
theorem pn_StringUTF16 : plainName "java/lang/StringUTF16" = true := by first | (simp [plainName, overriddenIn]; done) | decide +kernel
def QrmUlen (Z : State) (a0 : Addr) (kb : ClassId) (z : Int32) (vs : List Value) (h0 : Heap) (n0 : Nat) (v : Option Value) (h : Heap) (L : List Loc) : Prop := v = some (.int (z >>> ((1 : Int32) &&& 31))) ∧ Fr n0 L ∧ h = h0
set_option maxRecDepth 65536 in
set_option maxHeartbeats 40000000 in
theorem rmUlen (l : Launch) (Z : State) (av0 : Array Value) (hw : ∀ d ∈ tables_1, d.before av0 Z = true) (ws : List Jvm.Cond) (a0 : Addr) (kb : ClassId) (z : Int32) (vs : List Value) (h0 : Heap) (n0 : Nat) (Z0 : n0 ≤ h0.size) (hB : Arv Z h0 a0 kb .byte z vs (.int (0 : Int32))) :
    own_Met l mN10 jdk_52_method_6_code 1 (some .int) ws ({ frames := 0, cells := 0, slots := 0, locals := 0 } : Room) #[(.ref a0)] Z h0 (QrmUlen Z a0 kb z vs h0 n0) := by
  refine MetFree.of_bodySF (plainFor_of_name pn_StringUTF16) hisR ?_
  intro p e s m args below meth c s₁ Bd hml0 hP hK
  obtain ⟨rfl, hZ, hh⟩ := hP
  have hml : c.maxLocals = 1 := hml0
  obtain ⟨hx, hby, hown, hnm, X0, e0⟩ := own_start Bd hml0 hh
  have N0 := Fr.nil n0
  have pre0 : ∀ t, oS p e below s₁ (mkF m 0 #[rv a0] []) t → Steps p.tables e below (s₁.setTop (entryFrame m #[(.ref a0)] 1)) t := fun t k => castTop (by first | (simp [entryFrame, mkF, argsToLocals, Value.category]; done) | rfl) k
  obtain ⟨cl1, Ar1, qk1, Sz1, Ng1, Hs1, Gs1⟩ := id hB
  have S2 : ∀ t, oS p e below s₁ (mkF m 4 #[rv a0] [(.int (z >>> ((1 : Int32) &&& 31)))]) t → oS p e below s₁ (mkF m 0 #[rv a0] []) t := fun t k => id (by
    show oS p e below s₁ (mkF m 0 #[rv a0] []) _
    refine XS.aloadN X0.here hx rfl (hb hby d24_0) rfl rfl ?_
    refine X0.arraylength hx (by rw [e0]; exact Ar1.1) (State.isArrayOf_alike hZ.alike Ar1.2.1) (g := (mkF m 1 #[rv a0] [(.ref a0)])) rfl rfl (hb hby d24_1) _ ?_
    rw [len_of Sz1 Ng1]
    refine XT.iconstV X0.here hx rfl (1 : Int32) (hb hby d24_2) (by decide) ?_
    refine XT.ishr X0.here hx rfl (hb hby d24_3) rfl ?_
    exact k)
  obtain ⟨fs, hr, hrun, hended, hW, hsame⟩ := X0.leave (v := some (.int (z >>> ((1 : Int32) &&& 31)))) (fun h => by rw [Bd.returns] at h; cases h)
  refine ⟨_, _, pre0 _ (S2 _ ?_), hrun, hended, _, _, rfl, ?_, ⟨_, rfl⟩, hW, hsame.mono (by decide) (by decide)⟩
  · exact retI X0 hx Bd.returns (hb hby d24_4) hr
  · show QrmUlen Z a0 kb z vs h0 n0 _ s₁.heap _
    rw [e0]
    exact ⟨rfl, N0, rfl⟩
theorem d23_0 : decode jdk_52_method_91_code 0 = .ok (.iload_n 0, 1) := by decide +kernel
theorem d23_1 : decode jdk_52_method_91_code 1 = .ok (.aload_n 1, 1) := by decide +kernel
theorem d23_2 : decode jdk_52_method_91_code 2 = .ok (.invokestatic 48, 3) := by decide +kernel
theorem d23_5 : decode jdk_52_method_91_code 5 = .ok (.invokestatic 414, 3) := by decide +kernel
theorem d23_8 : decode jdk_52_method_91_code 8 = .ok (.return_, 1) := by decide +kernel
theorem pd__B_I : parseMethodDescriptor "([B)I" = some ⟨[(.array .byte)], some .int⟩ := by decide +kernel
theorem pd__II_V : parseMethodDescriptor "(II)V" = some ⟨[.int, .int], none⟩ := by decide +kernel
def QrmUci (Z : State) (a0 : Addr) (kb : ClassId) (z : Int32) (vs : List Value) (p1 : Int32) (fm : Value) (h0 : Heap) (n0 : Nat) (v : Option Value) (h : Heap) (L : List Loc) : Prop := v = none ∧ Fr n0 L ∧ h = h0
set_option maxRecDepth 65536 in
set_option maxHeartbeats 40000000 in
theorem rmUci (l : Launch) (Z : State) (av0 : Array Value) (hw : ∀ d ∈ tables_1, d.before av0 Z = true) (ws : List Jvm.Cond) (a0 : Addr) (kb : ClassId) (z : Int32) (vs : List Value) (p1 : Int32) (fm : Value) (h0 : Heap) (n0 : Nat) (Z0 : n0 ≤ h0.size) (hB : Arv Z h0 a0 kb .byte z vs (.int (0 : Int32))) (hfm : fm.isRef = true) (hF : Sta Z h0 "jdk/internal/util/Preconditions" "SIOOBE_FORMATTER" "Ljava/util/function/BiFunction;" fm) (h1 : ¬ p1 < (0 : Int32)) (h2 : p1 < (z >>> ((1 : Int32) &&& 31))) :
    own_Met l mN11 jdk_52_method_91_code 2 none ws ({ frames := 2, cells := 0, slots := 0, locals := 27 } : Room) #[(.int p1), (.ref a0)] Z h0 (QrmUci Z a0 kb z vs p1 fm h0 n0) := by
  refine MetFree.of_bodySF (plainFor_of_name pn_StringUTF16) hisR ?_
  intro p e s m args below meth c s₁ Bd hml0 hP hK
  obtain ⟨rfl, hZ, hh⟩ := hP
  have hml : c.maxLocals = 2 := hml0
  obtain ⟨hx, hby, hown, hnm, X0, e0⟩ := own_start Bd hml0 hh
  have N0 := Fr.nil n0
  have pre0 : ∀ t, oS p e below s₁ (mkF m 0 #[iv p1, rv a0] []) t → Steps p.tables e below (s₁.setTop (entryFrame m #[(.int p1), (.ref a0)] 2)) t := fun t k => castTop (by first | (simp [entryFrame, mkF, argsToLocals, Value.category]; done) | rfl) k
  obtain ⟨_, T1, Lc1, X1, hQ1, st1⟩ := own_callS (W := 1) (y := mN10) X0 hx hZ hown (hw _ (own_w 103 rfl)) (hw _ (own_w 104 rfl)) (hw _ (own_w 40 rfl)) (hw _ (own_w 105 rfl)) (by decide) (rmUlen l Z av0 hw [] a0 kb z vs h0 n0 Z0 hB) (by decide) (by decide) (g := (mkF m 2 #[iv p1, rv a0] [(.ref a0), (.int p1)])) rfl (by rw [hml]; rfl) (argsL := [(.ref a0)]) (rest := [(.int p1)]) (lenOf pd__B_I rfl) rfl (hb hby d23_2) rfl e0 (by decide : 0 + 0 ≤ _) (by decide : 0 + 0 ≤ _)
  obtain ⟨rfl, N1q, hh1⟩ := hQ1
  have N1 := Fr.app N0 N1q
  have e1 : T1.heap = h0 := hh1
  obtain ⟨_, T2, Lc2, X2, hQ2, st2⟩ := own_callS (W := 0) (y := mN8) X1 hx hZ hown (hw _ (own_w 106 rfl)) (hw _ (own_w 67 rfl)) (hw _ (own_w 4 rfl)) (hw _ (own_w 68 rfl)) (by decide) (rmSci l Z av0 hw [] p1 (z >>> ((1 : Int32) &&& 31)) fm h0 n0 Z0 hfm hF h1 h2) (by decide) (by decide) (g := (mkF m 5 #[iv p1, rv a0] [(.int (z >>> ((1 : Int32) &&& 31))), (.int p1)])) rfl (by rw [hml]; rfl) (argsL := [(.int p1), (.int (z >>> ((1 : Int32) &&& 31)))]) (rest := []) (lenOf pd__II_V rfl) rfl (hb hby d23_5) rfl e1 (by decide : 0 + 0 ≤ _) (by decide : 0 + 0 ≤ _)
  obtain ⟨rfl, N2q, hh2⟩ := hQ2
  have N2 := Fr.app N1 N2q
  have e2 : T2.heap = h0 := hh2
  have S3 : ∀ t, oS p e below T2 (mkF m 8 #[iv p1, rv a0] []) t → oS p e below s₁ (mkF m 0 #[iv p1, rv a0] []) t := fun t k => id (by
    show oS p e below s₁ (mkF m 0 #[iv p1, rv a0] []) _
    refine XS.iloadN X0.here hx rfl (hb hby d23_0) rfl ?_
    refine XS.aloadN X0.here hx rfl (hb hby d23_1) rfl rfl ?_
    refine st1 _ ?_
    refine st2 _ ?_
    exact k)
  obtain ⟨fs, hr, hrun, hended, hW, hsame⟩ := X2.leave (v := none) (fun _ => rfl)
  refine ⟨_, _, pre0 _ (S3 _ ?_), hrun, hended, _, _, rfl, ?_, ⟨_, rfl⟩, hW, hsame.mono (by decide) (by decide)⟩
  · exact X2.returnOut hx Bd.returns (hb hby d23_8) hr
  · show QrmUci Z a0 kb z vs p1 fm h0 n0 _ T2.heap _
    rw [e2]
    exact ⟨rfl, N2, rfl⟩
theorem d21_0 : decode jdk_52_method_5_code 0 = .ok (.getstatic 44, 3) := by decide +kernel
theorem d21_3 : decode jdk_52_method_5_code 3 = .ok (.ifCond .ne 25, 3) := by decide +kernel
theorem d21_28 : decode jdk_52_method_5_code 28 = .ok (.iload_n 1, 1) := by decide +kernel
theorem d21_29 : decode jdk_52_method_5_code 29 = .ok (.iconst 1, 1) := by decide +kernel
theorem d21_30 : decode jdk_52_method_5_code 30 = .ok (.ishl, 1) := by decide +kernel
theorem d21_31 : decode jdk_52_method_5_code 31 = .ok (.istore_n 1, 1) := by decide +kernel
theorem d21_32 : decode jdk_52_method_5_code 32 = .ok (.aload_n 0, 1) := by decide +kernel
theorem d21_33 : decode jdk_52_method_5_code 33 = .ok (.iload_n 1, 1) := by decide +kernel
theorem d21_34 : decode jdk_52_method_5_code 34 = .ok (.iinc 1 1, 3) := by decide +kernel
theorem d21_37 : decode jdk_52_method_5_code 37 = .ok (.baload, 1) := by decide +kernel
theorem d21_38 : decode jdk_52_method_5_code 38 = .ok (.sipush 255, 3) := by decide +kernel
theorem d21_41 : decode jdk_52_method_5_code 41 = .ok (.iand, 1) := by decide +kernel
theorem d21_42 : decode jdk_52_method_5_code 42 = .ok (.getstatic 59, 3) := by decide +kernel
theorem d21_45 : decode jdk_52_method_5_code 45 = .ok (.ishl, 1) := by decide +kernel
theorem d21_46 : decode jdk_52_method_5_code 46 = .ok (.aload_n 0, 1) := by decide +kernel
theorem d21_47 : decode jdk_52_method_5_code 47 = .ok (.iload_n 1, 1) := by decide +kernel
theorem d21_48 : decode jdk_52_method_5_code 48 = .ok (.baload, 1) := by decide +kernel
theorem d21_49 : decode jdk_52_method_5_code 49 = .ok (.sipush 255, 3) := by decide +kernel
theorem d21_52 : decode jdk_52_method_5_code 52 = .ok (.iand, 1) := by decide +kernel
theorem d21_53 : decode jdk_52_method_5_code 53 = .ok (.getstatic 63, 3) := by decide +kernel
theorem d21_56 : decode jdk_52_method_5_code 56 = .ok (.ishl, 1) := by decide +kernel
theorem d21_57 : decode jdk_52_method_5_code 57 = .ok (.ior, 1) := by decide +kernel
theorem d21_58 : decode jdk_52_method_5_code 58 = .ok (.i2c, 1) := by decide +kernel
theorem d21_59 : decode jdk_52_method_5_code 59 = .ok (.ireturn, 1) := by decide +kernel
def QrmGc (Z : State) (a0 : Addr) (ka : ClassId) (z : Int32) (vs : List Value) (p1 : Int32) (x : Int32) (y : Int32) (h0 : Heap) (n0 : Nat) (v : Option Value) (h : Heap) (L : List Loc) : Prop := v = some (.int (own_gc x y)) ∧ Fr n0 L ∧ h = h0
set_option maxRecDepth 65536 in
set_option maxHeartbeats 40000000 in
theorem rmGc (l : Launch) (Z : State) (av0 : Array Value) (hw : ∀ d ∈ tables_1, d.before av0 Z = true) (ws : List Jvm.Cond) (a0 : Addr) (ka : ClassId) (z : Int32) (vs : List Value) (p1 : Int32) (x : Int32) (y : Int32) (h0 : Heap) (n0 : Nat) (Z0 : n0 ≤ h0.size) (hA : Arv Z h0 a0 ka .byte z vs (.int (0 : Int32))) (sA : Sta Z h0 "java/lang/StringUTF16" "$assertionsDisabled" "Z" (.int (1 : Int32))) (sH : Sta Z h0 "java/lang/StringUTF16" "HI_BYTE_SHIFT" "I" (.int (0 : Int32))) (sL : Sta Z h0 "java/lang/StringUTF16" "LO_BYTE_SHIFT" "I" (.int (8 : Int32))) (i1 : ¬ (p1 <<< ((1 : Int32) &&& 31)) < 0 ∧ (p1 <<< ((1 : Int32) &&& 31)) < z) (i2 : ¬ ((p1 <<< ((1 : Int32) &&& 31)) + (1 : Int32)) < 0 ∧ ((p1 <<< ((1 : Int32) &&& 31)) + (1 : Int32)) < z) (t1 : vs.getD (p1 <<< ((1 : Int32) &&& 31)).toNatClampNeg (.int (0 : Int32)) = .int x) (t2 : vs.getD ((p1 <<< ((1 : Int32) &&& 31)) + (1 : Int32)).toNatClampNeg (.int (0 : Int32)) = .int y) :
    own_Met l mN12 jdk_52_method_5_code 2 (some .char) ws ({ frames := 0, cells := 0, slots := 0, locals := 0 } : Room) #[(.ref a0), (.int p1)] Z h0 (QrmGc Z a0 ka z vs p1 x y h0 n0) := by
  refine MetFree.of_bodySF (plainFor_of_name pn_StringUTF16) hisR ?_
  intro p e s m args below meth c s₁ Bd hml0 hP hK
  obtain ⟨rfl, hZ, hh⟩ := hP
  have hml : c.maxLocals = 2 := hml0
  obtain ⟨hx, hby, hown, hnm, X0, e0⟩ := own_start Bd hml0 hh
  have N0 := Fr.nil n0
  have pre0 : ∀ t, oS p e below s₁ (mkF m 0 #[rv a0, iv p1] []) t → Steps p.tables e below (s₁.setTop (entryFrame m #[(.ref a0), (.int p1)] 2)) t := fun t k => castTop (by first | (simp [entryFrame, mkF, argsToLocals, Value.category]; done) | rfl) k
  obtain ⟨T1, X1, e1, st1⟩ := getS2 X0 hx hZ hown (host := "") (Or.inl (hw _ (own_w 91 rfl))) Via.refl e0 sA (g := (mkF m 0 #[rv a0, iv p1] [])) rfl (hb hby d21_0)
  obtain ⟨cl2, Ar2, qk2, Sz2, Ng2, Hs2, Gs2⟩ := id hA
  have hin2 : ¬ ((p1 <<< ((1 : Int32) &&& 31)) < 0 ∨ cl2.slots.size ≤ ((p1 <<< ((1 : Int32) &&& 31))).toNatClampNeg) := inb_of Sz2 i1
  have hat2 : cl2.slots[((p1 <<< ((1 : Int32) &&& 31))).toNatClampNeg]? = some (.int x) := Hs2.at hin2 t1
  obtain ⟨T3, X3, e3, st3⟩ := getS2 X1 hx hZ hown (host := "") (Or.inl (hw _ (own_w 92 rfl))) Via.refl e1 sH (g := (mkF m 42 #[rv a0, iv (((p1 <<< ((1 : Int32) &&& 31)) + (1 : Int32)))] [(.int (x &&& (255 : Int32)))])) rfl (hb hby d21_42)
  obtain ⟨cl4, Ar4, qk4, Sz4, Ng4, Hs4, Gs4⟩ := id hA
  have hin4 : ¬ (((p1 <<< ((1 : Int32) &&& 31)) + (1 : Int32)) < 0 ∨ cl4.slots.size ≤ (((p1 <<< ((1 : Int32) &&& 31)) + (1 : Int32))).toNatClampNeg) := inb_of Sz4 i2
  have hat4 : cl4.slots[(((p1 <<< ((1 : Int32) &&& 31)) + (1 : Int32))).toNatClampNeg]? = some (.int y) := Hs4.at hin4 t2
  obtain ⟨T5, X5, e5, st5⟩ := getS2 X3 hx hZ hown (host := "") (Or.inl (hw _ (own_w 93 rfl))) Via.refl e3 sL (g := (mkF m 53 #[rv a0, iv (((p1 <<< ((1 : Int32) &&& 31)) + (1 : Int32)))] [(.int (y &&& (255 : Int32))), (.int ((x &&& (255 : Int32)) <<< ((0 : Int32) &&& 31)))])) rfl (hb hby d21_53)
  have S6 : ∀ t, oS p e below T5 (mkF m 59 #[rv a0, iv (((p1 <<< ((1 : Int32) &&& 31)) + (1 : Int32)))] [(.int ((((x &&& (255 : Int32)) <<< ((0 : Int32) &&& 31)) ||| ((y &&& (255 : Int32)) <<< ((8 : Int32) &&& 31)))).toUInt32.toUInt16.toUInt32.toInt32)]) t → oS p e below s₁ (mkF m 0 #[rv a0, iv p1] []) t := fun t k => id (by
    show oS p e below s₁ (mkF m 0 #[rv a0, iv p1] []) _
    refine st1 _ ?_
    refine XS.ifYes X1.here hx rfl (pc0 := 3) (pc' := 28) rfl (hb hby d21_3) rfl (XT.i0_ne_t (by decide)) (by decide) (by decide) ?_
    refine XS.iloadN X1.here hx rfl (hb hby d21_28) rfl ?_
    refine XT.iconstV X1.here hx rfl (1 : Int32) (hb hby d21_29) (by decide) ?_
    refine XT.ishl X1.here hx rfl (hb hby d21_30) rfl ?_
    refine XS.istoreN X1.here hx rfl (hb hby d21_31) rfl (l' := #[rv a0, iv ((p1 <<< ((1 : Int32) &&& 31)))]) rfl ?_
    refine XS.aloadN X1.here hx rfl (hb hby d21_32) rfl rfl ?_
    refine XS.iloadN X1.here hx rfl (hb hby d21_33) rfl ?_
    refine XT.iincV X1.here hx rfl (1 : Int32) (hb hby d21_34) (by decide) rfl (l' := #[rv a0, iv (((p1 <<< ((1 : Int32) &&& 31)) + (1 : Int32)))]) rfl ?_
    refine X1.baloadBytes hx (j := (p1 <<< ((1 : Int32) &&& 31))) (v := (.int x)) (by rw [e1]; exact Ar2.1) (State.isArrayOf_alike hZ.alike Ar2.2.1) Ar2.2.2 hin2 hat2 (g := (mkF m 37 #[rv a0, iv (((p1 <<< ((1 : Int32) &&& 31)) + (1 : Int32)))] [(.int (p1 <<< ((1 : Int32) &&& 31))), (.ref a0)])) rfl rfl (hb hby d21_37) _ ?_
    refine XT.sipushV X1.here hx rfl (255 : Int32) (hb hby d21_38) (by decide) ?_
    refine XS.iand X1.here hx rfl (hb hby d21_41) rfl ?_
    refine st3 _ ?_
    refine XT.ishl X3.here hx rfl (hb hby d21_45) rfl ?_
    refine XS.aloadN X3.here hx rfl (hb hby d21_46) rfl rfl ?_
    refine XS.iloadN X3.here hx rfl (hb hby d21_47) rfl ?_
    refine X3.baloadBytes hx (j := ((p1 <<< ((1 : Int32) &&& 31)) + (1 : Int32))) (v := (.int y)) (by rw [e3]; exact Ar4.1) (State.isArrayOf_alike hZ.alike Ar4.2.1) Ar4.2.2 hin4 hat4 (g := (mkF m 48 #[rv a0, iv (((p1 <<< ((1 : Int32) &&& 31)) + (1 : Int32)))] [(.int ((p1 <<< ((1 : Int32) &&& 31)) + (1 : Int32))), (.ref a0), (.int ((x &&& (255 : Int32)) <<< ((0 : Int32) &&& 31)))])) rfl rfl (hb hby d21_48) _ ?_
    refine XT.sipushV X3.here hx rfl (255 : Int32) (hb hby d21_49) (by decide) ?_
    refine XS.iand X3.here hx rfl (hb hby d21_52) rfl ?_
    refine st5 _ ?_
    show oS p e below T5 (mkF m 56 #[rv a0, iv (((p1 <<< ((1 : Int32) &&& 31)) + (1 : Int32)))] [(.int 8), (.int (y &&& (255 : Int32))), (.int ((x &&& (255 : Int32)) <<< ((0 : Int32) &&& 31)))]) _
    refine XT.ishl X5.here hx rfl (hb hby d21_56) rfl ?_
    refine XT.ior X5.here hx rfl (hb hby d21_57) rfl ?_
    refine XT.i2c X5.here hx rfl (hb hby d21_58) rfl ?_
    exact k)
  obtain ⟨fs, hr, hrun, hended, hW, hsame⟩ := X5.leave (v := some (.int (nar .char ((((x &&& (255 : Int32)) <<< ((0 : Int32) &&& 31)) ||| ((y &&& (255 : Int32)) <<< ((8 : Int32) &&& 31)))).toUInt32.toUInt16.toUInt32.toInt32))) (fun h => by rw [Bd.returns] at h; cases h)
  refine ⟨_, _, pre0 _ (S6 _ ?_), hrun, hended, _, _, rfl, ?_, ⟨_, rfl⟩, hW, hsame.mono (by decide) (by decide)⟩
  · exact retN X5 hx (t := .char) Bd.returns (by simp) (hb hby d21_59) hr
  · show QrmGc Z a0 ka z vs p1 x y h0 n0 _ T5.heap _
    rw [e5]
    exact ⟨rfl, N0, rfl⟩
theorem d22_0 : decode jdk_52_method_83_code 0 = .ok (.iload_n 1, 1) := by decide +kernel
theorem d22_1 : decode jdk_52_method_83_code 1 = .ok (.aload_n 0, 1) := by decide +kernel
theorem d22_2 : decode jdk_52_method_83_code 2 = .ok (.invokestatic 67, 3) := by decide +kernel
theorem d22_5 : decode jdk_52_method_83_code 5 = .ok (.aload_n 0, 1) := by decide +kernel
theorem d22_6 : decode jdk_52_method_83_code 6 = .ok (.iload_n 1, 1) := by decide +kernel
theorem d22_7 : decode jdk_52_method_83_code 7 = .ok (.invokestatic 71, 3) := by decide +kernel
theorem d22_10 : decode jdk_52_method_83_code 10 = .ok (.ireturn, 1) := by decide +kernel
theorem pd__I_B_V : parseMethodDescriptor "(I[B)V" = some ⟨[.int, (.array .byte)], none⟩ := by decide +kernel
theorem pd__BI_C : parseMethodDescriptor "([BI)C" = some ⟨[(.array .byte), .int], some .char⟩ := by decide +kernel
def QrmUch (Z : State) (a0 : Addr) (kb : ClassId) (z : Int32) (vs : List Value) (p1 : Int32) (fm : Value) (ch : Int32) (h0 : Heap) (n0 : Nat) (v : Option Value) (h : Heap) (L : List Loc) : Prop := v = some (.int ch) ∧ Fr n0 L ∧ h = h0
set_option maxRecDepth 65536 in
set_option maxHeartbeats 40000000 in
theorem rmUch (l : Launch) (Z : State) (av0 : Array Value) (hw : ∀ d ∈ tables_1, d.before av0 Z = true) (ws : List Jvm.Cond) (a0 : Addr) (kb : ClassId) (z : Int32) (vs : List Value) (p1 : Int32) (fm : Value) (ch : Int32) (h0 : Heap) (n0 : Nat) (Z0 : n0 ≤ h0.size) (hB : Arv Z h0 a0 kb .byte z vs (.int (0 : Int32))) (hfm : fm.isRef = true) (hF : Sta Z h0 "jdk/internal/util/Preconditions" "SIOOBE_FORMATTER" "Ljava/util/function/BiFunction;" fm) (sA : Sta Z h0 "java/lang/StringUTF16" "$assertionsDisabled" "Z" (.int (1 : Int32))) (sH : Sta Z h0 "java/lang/StringUTF16" "HI_BYTE_SHIFT" "I" (.int (0 : Int32))) (sL : Sta Z h0 "java/lang/StringUTF16" "LO_BYTE_SHIFT" "I" (.int (8 : Int32))) (h1 : ¬ p1 < (0 : Int32)) (h2 : p1 < (z >>> ((1 : Int32) &&& 31))) (i1 : ¬ (p1 <<< ((1 : Int32) &&& 31)) < 0 ∧ (p1 <<< ((1 : Int32) &&& 31)) < z) (i2 : ¬ ((p1 <<< ((1 : Int32) &&& 31)) + (1 : Int32)) < 0 ∧ ((p1 <<< ((1 : Int32) &&& 31)) + (1 : Int32)) < z) (t1 : vs.getD (p1 <<< ((1 : Int32) &&& 31)).toNatClampNeg (.int (0 : Int32)) = .int (own_lo ch)) (t2 : vs.getD ((p1 <<< ((1 : Int32) &&& 31)) + (1 : Int32)).toNatClampNeg (.int (0 : Int32)) = .int (own_hi ch)) (hg : 0 ≤ ch.toInt ∧ ch.toInt < 65536) :
    own_Met l mN13 jdk_52_method_83_code 2 (some .char) ws ({ frames := 3, cells := 0, slots := 0, locals := 40 } : Room) #[(.ref a0), (.int p1)] Z h0 (QrmUch Z a0 kb z vs p1 fm ch h0 n0) := by
  refine MetFree.of_bodySF (plainFor_of_name pn_StringUTF16) hisR ?_
  intro p e s m args below meth c s₁ Bd hml0 hP hK
  obtain ⟨rfl, hZ, hh⟩ := hP
  have hml : c.maxLocals = 2 := hml0
  obtain ⟨hx, hby, hown, hnm, X0, e0⟩ := own_start Bd hml0 hh
  have N0 := Fr.nil n0
  have pre0 : ∀ t, oS p e below s₁ (mkF m 0 #[rv a0, iv p1] []) t → Steps p.tables e below (s₁.setTop (entryFrame m #[(.ref a0), (.int p1)] 2)) t := fun t k => castTop (by first | (simp [entryFrame, mkF, argsToLocals, Value.category]; done) | rfl) k
  obtain ⟨_, T1, Lc1, X1, hQ1, st1⟩ := own_callS (W := 0) (y := mN11) X0 hx hZ hown (hw _ (own_w 100 rfl)) (hw _ (own_w 101 rfl)) (hw _ (own_w 40 rfl)) (hw _ (own_w 102 rfl)) (by decide) (rmUci l Z av0 hw [] a0 kb z vs p1 fm h0 n0 Z0 hB hfm hF h1 h2) (by decide) (by decide) (g := (mkF m 2 #[rv a0, iv p1] [(.ref a0), (.int p1)])) rfl (by rw [hml]; rfl) (argsL := [(.int p1), (.ref a0)]) (rest := []) (lenOf pd__I_B_V rfl) rfl (hb hby d22_2) rfl e0 (by decide : 0 + 0 ≤ _) (by decide : 0 + 0 ≤ _)
  obtain ⟨rfl, N1q, hh1⟩ := hQ1
  have N1 := Fr.app N0 N1q
  have e1 : T1.heap = h0 := hh1
  obtain ⟨_, T2, Lc2, X2, hQ2, st2⟩ := own_callS (W := 0) (y := mN12) X1 hx hZ hown (hw _ (own_w 94 rfl)) (hw _ (own_w 95 rfl)) (hw _ (own_w 40 rfl)) (hw _ (own_w 96 rfl)) (by decide) (rmGc l Z av0 hw [] a0 kb z vs p1 (own_lo ch) (own_hi ch) h0 n0 Z0 hB sA sH sL i1 i2 t1 t2) (by decide) (by decide) (g := (mkF m 7 #[rv a0, iv p1] [(.int p1), (.ref a0)])) rfl (by rw [hml]; rfl) (argsL := [(.ref a0), (.int p1)]) (rest := []) (lenOf pd__BI_C rfl) rfl (hb hby d22_7) rfl e1 (by decide : 0 + 0 ≤ _) (by decide : 0 + 0 ≤ _)
  obtain ⟨rfl, N2q, hh2⟩ := hQ2
  have N2 := Fr.app N1 N2q
  have e2 : T2.heap = h0 := hh2
  have S3 : ∀ t, oS p e below T2 (mkF m 10 #[rv a0, iv p1] [(.int (own_gc (own_lo ch) (own_hi ch)))]) t → oS p e below s₁ (mkF m 0 #[rv a0, iv p1] []) t := fun t k => id (by
    show oS p e below s₁ (mkF m 0 #[rv a0, iv p1] []) _
    refine XS.iloadN X0.here hx rfl (hb hby d22_0) rfl ?_
    refine XS.aloadN X0.here hx rfl (hb hby d22_1) rfl rfl ?_
    refine st1 _ ?_
    refine XS.aloadN X1.here hx rfl (hb hby d22_5) rfl rfl ?_
    refine XS.iloadN X1.here hx rfl (hb hby d22_6) rfl ?_
    refine st2 _ ?_
    exact k)
  obtain ⟨fs, hr, hrun, hended, hW, hsame⟩ := X2.leave (v := some (.int (nar .char (own_gc (own_lo ch) (own_hi ch))))) (fun h => by rw [Bd.returns] at h; cases h)
  refine ⟨_, _, pre0 _ (S3 _ ?_), hrun, hended, _, _, rfl, ?_, ⟨_, rfl⟩, hW, hsame.mono (by decide) (by decide)⟩
  · exact retN X2 hx (t := .char) Bd.returns (by simp) (hb hby d22_10) hr
  · show QrmUch Z a0 kb z vs p1 fm ch h0 n0 _ T2.heap _
    rw [e2]
    exact ⟨by rw [own_gcv ch hg.1 hg.2, own_nar ch hg.1 hg.2], N2, rfl⟩
theorem d11_0 : decode jdk_42_method_56_code 0 = .ok (.aload_n 0, 1) := by decide +kernel
theorem d11_1 : decode jdk_42_method_56_code 1 = .ok (.invokevirtual 492, 3) := by decide +kernel
theorem d11_4 : decode jdk_42_method_56_code 4 = .ok (.ifCond .eq 12, 3) := by decide +kernel
theorem d11_16 : decode jdk_42_method_56_code 16 = .ok (.aload_n 0, 1) := by decide +kernel
theorem d11_17 : decode jdk_42_method_56_code 17 = .ok (.getfield 9, 3) := by decide +kernel
theorem d11_20 : decode jdk_42_method_56_code 20 = .ok (.iload_n 1, 1) := by decide +kernel
theorem d11_21 : decode jdk_42_method_56_code 21 = .ok (.invokestatic 498, 3) := by decide +kernel
theorem d11_24 : decode jdk_42_method_56_code 24 = .ok (.ireturn, 1) := by decide +kernel
theorem pd__Z : parseMethodDescriptor "()Z" = some ⟨[], some .boolean⟩ := by decide +kernel
def QrmCh1 (Z : State) (a0 : Addr) (ab : Addr) (kb : ClassId) (wC : Int32) (z : Int32) (vs : List Value) (p1 : Int32) (fm : Value) (ch : Int32) (h0 : Heap) (n0 : Nat) (v : Option Value) (h : Heap) (L : List Loc) : Prop := v = some (.int ch) ∧ Fr n0 L ∧ h = h0
set_option maxRecDepth 65536 in
set_option maxHeartbeats 40000000 in
theorem rmCh1 (l : Launch) (Z : State) (av0 : Array Value) (hw : ∀ d ∈ tables_1, d.before av0 Z = true) (ws : List Jvm.Cond) (a0 : Addr) (ab : Addr) (kb : ClassId) (wC : Int32) (z : Int32) (vs : List Value) (p1 : Int32) (fm : Value) (ch : Int32) (h0 : Heap) (n0 : Nat) (Z0 : n0 ≤ h0.size) (hE : Exa Z h0 a0 "java/lang/String") (hV : Fld Z h0 a0 "java/lang/String" "value" "[B" (.ref ab)) (hC : Fld Z h0 a0 "java/lang/String" "coder" "B" (.int (1 : Int32))) (hB : Arv Z h0 ab kb .byte z vs (.int (0 : Int32))) (hS : Sta Z h0 "java/lang/String" "COMPACT_STRINGS" "Z" (.int wC)) (hw0 : ¬ wC = (0 : Int32)) (hfm : fm.isRef = true) (hF : Sta Z h0 "jdk/internal/util/Preconditions" "SIOOBE_FORMATTER" "Ljava/util/function/BiFunction;" fm) (sA : Sta Z h0 "java/lang/StringUTF16" "$assertionsDisabled" "Z" (.int (1 : Int32))) (sH : Sta Z h0 "java/lang/StringUTF16" "HI_BYTE_SHIFT" "I" (.int (0 : Int32))) (sL : Sta Z h0 "java/lang/StringUTF16" "LO_BYTE_SHIFT" "I" (.int (8 : Int32))) (h1 : ¬ p1 < (0 : Int32)) (h2 : p1 < (z >>> ((1 : Int32) &&& 31))) (i1 : ¬ (p1 <<< ((1 : Int32) &&& 31)) < 0 ∧ (p1 <<< ((1 : Int32) &&& 31)) < z) (i2 : ¬ ((p1 <<< ((1 : Int32) &&& 31)) + (1 : Int32)) < 0 ∧ ((p1 <<< ((1 : Int32) &&& 31)) + (1 : Int32)) < z) (t1 : vs.getD (p1 <<< ((1 : Int32) &&& 31)).toNatClampNeg (.int (0 : Int32)) = .int (own_lo ch)) (t2 : vs.getD ((p1 <<< ((1 : Int32) &&& 31)) + (1 : Int32)).toNatClampNeg (.int (0 : Int32)) = .int (own_hi ch)) (hg : 0 ≤ ch.toInt ∧ ch.toInt < 65536) :
    own_Met l mN14 jdk_42_method_56_code 2 (some .char) ws ({ frames := 4, cells := 0, slots := 0, locals := 53 } : Room) #[(.ref a0), (.int p1)] Z h0 (QrmCh1 Z a0 ab kb wC z vs p1 fm ch h0 n0) := by
  refine MetFree.of_bodySF (plainFor_of_name pn_String) hisR ?_
  intro p e s m args below meth c s₁ Bd hml0 hP hK
  obtain ⟨rfl, hZ, hh⟩ := hP
  have hml : c.maxLocals = 2 := hml0
  obtain ⟨hx, hby, hown, hnm, X0, e0⟩ := own_start Bd hml0 hh
  have N0 := Fr.nil n0
  have pre0 : ∀ t, oS p e below s₁ (mkF m 0 #[rv a0, iv p1] []) t → Steps p.tables e below (s₁.setTop (entryFrame m #[(.ref a0), (.int p1)] 2)) t := fun t k => castTop (by first | (simp [entryFrame, mkF, argsToLocals, Value.category]; done) | rfl) k
  obtain ⟨_, T1, Lc1, X1, hQ1, st1⟩ := own_virtual (W := 0) (y := mN9) (z := mN9) X0 hx hZ hown (hw _ (own_w 57 rfl)) (hw _ (own_w 58 rfl)) (notFace_of_selects (args := #[]) (mvT hZ (hw _ (own_w 60 rfl)))) (hw _ (own_w 60 rfl)) (hw _ (own_w 59 rfl)) (hw _ (own_w 61 rfl)) (hw _ (own_w 4 rfl)) (by decide) (rmLat_1 l Z av0 hw [] a0 wC h0 n0 Z0 hS hw0 hC) (by decide) (by decide) hE (g := (mkF m 1 #[rv a0, iv p1] [(.ref a0)])) rfl (by rw [hml]; rfl) (argsL := []) (rest := []) (lenOf pd__Z rfl) rfl (hb hby d11_1) rfl e0 (by decide : 0 + 0 ≤ _) (by decide : 0 + 0 ≤ _)
  obtain ⟨rfl, N1q, hh1⟩ := hQ1
  have N1 := Fr.app N0 N1q
  have e1 : T1.heap = h0 := hh1
  obtain ⟨T2, X2, e2, st2⟩ := getF X1 hx hZ hown (host := "") (Or.inl (hw _ (own_w 21 rfl))) Via.refl e1 hV (g := (mkF m 17 #[rv a0, iv p1] [(.ref a0)])) rfl rfl (hb hby d11_17)
  obtain ⟨_, T3, Lc3, X3, hQ3, st3⟩ := own_callS (W := 0) (y := mN13) X2 hx hZ hown (hw _ (own_w 97 rfl)) (hw _ (own_w 98 rfl)) (hw _ (own_w 40 rfl)) (hw _ (own_w 99 rfl)) (by decide) (rmUch l Z av0 hw [] ab kb z vs p1 fm ch h0 n0 Z0 hB hfm hF sA sH sL h1 h2 i1 i2 t1 t2 hg) (by decide) (by decide) (g := (mkF m 21 #[rv a0, iv p1] [(.int p1), (.ref ab)])) rfl (by rw [hml]; rfl) (argsL := [(.ref ab), (.int p1)]) (rest := []) (lenOf pd__BI_C rfl) rfl (hb hby d11_21) rfl e2 (by decide : 0 + 0 ≤ _) (by decide : 0 + 0 ≤ _)
  obtain ⟨rfl, N3q, hh3⟩ := hQ3
  have N3 := Fr.app N1 N3q
  have e3 : T3.heap = h0 := hh3
  have S4 : ∀ t, oS p e below T3 (mkF m 24 #[rv a0, iv p1] [(.int ch)]) t → oS p e below s₁ (mkF m 0 #[rv a0, iv p1] []) t := fun t k => id (by
    show oS p e below s₁ (mkF m 0 #[rv a0, iv p1] []) _
    refine XS.aloadN X0.here hx rfl (hb hby d11_0) rfl rfl ?_
    refine st1 _ ?_
    refine XS.ifYes X1.here hx rfl (pc0 := 4) (pc' := 16) rfl (hb hby d11_4) rfl (XT.i0_eq_t (by decide)) (by decide) (by decide) ?_
    refine XS.aloadN X1.here hx rfl (hb hby d11_16) rfl rfl ?_
    refine st2 _ ?_
    refine XS.iloadN X2.here hx rfl (hb hby d11_20) rfl ?_
    refine st3 _ ?_
    exact k)
  obtain ⟨fs, hr, hrun, hended, hW, hsame⟩ := X3.leave (v := some (.int (nar .char ch))) (fun h => by rw [Bd.returns] at h; cases h)
  refine ⟨_, _, pre0 _ (S4 _ ?_), hrun, hended, _, _, rfl, ?_, ⟨_, rfl⟩, hW, hsame.mono (by decide) (by decide)⟩
  · exact retN X3 hx (t := .char) Bd.returns (by simp) (hb hby d11_24) hr
  · show QrmCh1 Z a0 ab kb wC z vs p1 fm ch h0 n0 _ T3.heap _
    rw [e3]
    exact ⟨congrArg (fun z => some (Value.int z)) (own_nar ch hg.1 hg.2), N3, rfl⟩
theorem d12_13 : decode jdk_42_method_154_code 13 = .ok (.iconst 1, 1) := by decide +kernel
theorem d12_14 : decode jdk_42_method_154_code 14 = .ok (.goto 4, 3) := by decide +kernel
def QrmLat_0 (Z : State) (a0 : Addr) (wC : Int32) (h0 : Heap) (n0 : Nat) (v : Option Value) (h : Heap) (L : List Loc) : Prop := v = some (.int 1) ∧ Fr n0 L ∧ h = h0
set_option maxRecDepth 65536 in
set_option maxHeartbeats 40000000 in
theorem rmLat_0 (l : Launch) (Z : State) (av0 : Array Value) (hw : ∀ d ∈ tables_1, d.before av0 Z = true) (ws : List Jvm.Cond) (a0 : Addr) (wC : Int32) (h0 : Heap) (n0 : Nat) (Z0 : n0 ≤ h0.size) (hS : Sta Z h0 "java/lang/String" "COMPACT_STRINGS" "Z" (.int wC)) (hw0 : ¬ wC = (0 : Int32)) (hC : Fld Z h0 a0 "java/lang/String" "coder" "B" (.int (0 : Int32))) :
    own_Met l mN9 jdk_42_method_154_code 1 (some .boolean) ws ({ frames := 0, cells := 0, slots := 0, locals := 0 } : Room) #[(.ref a0)] Z h0 (QrmLat_0 Z a0 wC h0 n0) := by
  refine MetFree.of_bodySF (plainFor_of_name pn_String) hisR ?_
  intro p e s m args below meth c s₁ Bd hml0 hP hK
  obtain ⟨rfl, hZ, hh⟩ := hP
  have hml : c.maxLocals = 1 := hml0
  obtain ⟨hx, hby, hown, hnm, X0, e0⟩ := own_start Bd hml0 hh
  have N0 := Fr.nil n0
  have pre0 : ∀ t, oS p e below s₁ (mkF m 0 #[rv a0] []) t → Steps p.tables e below (s₁.setTop (entryFrame m #[(.ref a0)] 1)) t := fun t k => castTop (by first | (simp [entryFrame, mkF, argsToLocals, Value.category]; done) | rfl) k
  obtain ⟨T1, X1, e1, st1⟩ := getS2 X0 hx hZ hown (host := "") (Or.inl (hw _ (own_w 37 rfl))) Via.refl e0 hS (g := (mkF m 0 #[rv a0] [])) rfl (hb hby d12_0)
  obtain ⟨T2, X2, e2, st2⟩ := getF X1 hx hZ hown (host := "") (Or.inl (hw _ (own_w 22 rfl))) Via.refl e1 hC (g := (mkF m 7 #[rv a0] [(.ref a0)])) rfl rfl (hb hby d12_7)
  have S3 : ∀ t, oS p e below T2 (mkF m 18 #[rv a0] [(.int 1)]) t → oS p e below s₁ (mkF m 0 #[rv a0] []) t := fun t k => id (by
    show oS p e below s₁ (mkF m 0 #[rv a0] []) _
    refine st1 _ ?_
    refine XS.ifNo X1.here hx rfl (hb hby d12_3) rfl (XT.i0_eq_f hw0) ?_
    refine XS.aloadN X1.here hx rfl (hb hby d12_6) rfl rfl ?_
    refine st2 _ ?_
    refine XS.ifNo X2.here hx rfl (hb hby d12_10) rfl (XT.i0_ne_f (by decide)) ?_
    refine XT.iconstV X2.here hx rfl (1 : Int32) (hb hby d12_13) (by decide) ?_
    refine XS.goto X2.here hx rfl (pc0 := 14) (pc' := 18) rfl (hb hby d12_14) (by decide) (by decide) ?_
    exact k)
  obtain ⟨fs, hr, hrun, hended, hW, hsame⟩ := X2.leave (v := some (.int 1)) (fun h => by rw [Bd.returns] at h; cases h)
  refine ⟨_, _, pre0 _ (S3 _ ?_), hrun, hended, _, _, rfl, ?_, ⟨_, rfl⟩, hW, hsame.mono (by decide) (by decide)⟩
  · exact retN X2 hx (t := .boolean) Bd.returns (by simp) (hb hby d12_18) hr
  · show QrmLat_0 Z a0 wC h0 n0 _ T2.heap _
    rw [e2]
    exact ⟨congrArg (fun z => some (Value.int z)) (by decide), N0, rfl⟩
theorem d13_0 : decode jdk_43_method_2_code 0 = .ok (.iload_n 1, 1) := by decide +kernel
theorem d13_1 : decode jdk_43_method_2_code 1 = .ok (.aload_n 0, 1) := by decide +kernel
theorem d13_2 : decode jdk_43_method_2_code 2 = .ok (.arraylength, 1) := by decide +kernel
theorem d13_3 : decode jdk_43_method_2_code 3 = .ok (.invokestatic 9, 3) := by decide +kernel
theorem d13_6 : decode jdk_43_method_2_code 6 = .ok (.aload_n 0, 1) := by decide +kernel
theorem d13_7 : decode jdk_43_method_2_code 7 = .ok (.iload_n 1, 1) := by decide +kernel
theorem d13_8 : decode jdk_43_method_2_code 8 = .ok (.baload, 1) := by decide +kernel
theorem d13_9 : decode jdk_43_method_2_code 9 = .ok (.sipush 255, 3) := by decide +kernel
theorem d13_12 : decode jdk_43_method_2_code 12 = .ok (.iand, 1) := by decide +kernel
theorem d13_13 : decode jdk_43_method_2_code 13 = .ok (.i2c, 1) := by decide +kernel
theorem d13_14 : decode jdk_43_method_2_code 14 = .ok (.ireturn, 1) := by decide +kernel
theorem pn_StringLatin1 : plainName "java/lang/StringLatin1" = true := by first | (simp [plainName, overriddenIn]; done) | decide +kernel
def QrmLch (Z : State) (a0 : Addr) (kb : ClassId) (z : Int32) (vs : List Value) (p1 : Int32) (fm : Value) (ch : Int32) (h0 : Heap) (n0 : Nat) (v : Option Value) (h : Heap) (L : List Loc) : Prop := v = some (.int ch) ∧ Fr n0 L ∧ h = h0
set_option maxRecDepth 65536 in
set_option maxHeartbeats 40000000 in
theorem rmLch (l : Launch) (Z : State) (av0 : Array Value) (hw : ∀ d ∈ tables_1, d.before av0 Z = true) (ws : List Jvm.Cond) (a0 : Addr) (kb : ClassId) (z : Int32) (vs : List Value) (p1 : Int32) (fm : Value) (ch : Int32) (h0 : Heap) (n0 : Nat) (Z0 : n0 ≤ h0.size) (hB : Arv Z h0 a0 kb .byte z vs (.int (0 : Int32))) (hfm : fm.isRef = true) (hF : Sta Z h0 "jdk/internal/util/Preconditions" "SIOOBE_FORMATTER" "Ljava/util/function/BiFunction;" fm) (h1 : ¬ p1 < (0 : Int32)) (h2 : p1 < z) (t1 : vs.getD p1.toNatClampNeg (.int (0 : Int32)) = .int (own_b ch)) (hg : 0 ≤ ch.toInt ∧ ¬ (255 : Int32) < ch) :
    own_Met l mN15 jdk_43_method_2_code 2 (some .char) ws ({ frames := 2, cells := 0, slots := 0, locals := 27 } : Room) #[(.ref a0), (.int p1)] Z h0 (QrmLch Z a0 kb z vs p1 fm ch h0 n0) := by
  refine MetFree.of_bodySF (plainFor_of_name pn_StringLatin1) hisR ?_
  intro p e s m args below meth c s₁ Bd hml0 hP hK
  obtain ⟨rfl, hZ, hh⟩ := hP
  have hml : c.maxLocals = 2 := hml0
  obtain ⟨hx, hby, hown, hnm, X0, e0⟩ := own_start Bd hml0 hh
  have N0 := Fr.nil n0
  have pre0 : ∀ t, oS p e below s₁ (mkF m 0 #[rv a0, iv p1] []) t → Steps p.tables e below (s₁.setTop (entryFrame m #[(.ref a0), (.int p1)] 2)) t := fun t k => castTop (by first | (simp [entryFrame, mkF, argsToLocals, Value.category]; done) | rfl) k
  obtain ⟨cl1, Ar1, qk1, Sz1, Ng1, Hs1, Gs1⟩ := id hB
  obtain ⟨_, T2, Lc2, X2, hQ2, st2⟩ := own_callS (W := 0) (y := mN8) X0 hx hZ hown (hw _ (own_w 66 rfl)) (hw _ (own_w 67 rfl)) (hw _ (own_w 4 rfl)) (hw _ (own_w 68 rfl)) (by decide) (rmSci l Z av0 hw [] p1 z fm h0 n0 Z0 hfm hF h1 h2) (by decide) (by decide) (g := (mkF m 3 #[rv a0, iv p1] [(.int z), (.int p1)])) rfl (by rw [hml]; rfl) (argsL := [(.int p1), (.int z)]) (rest := []) (lenOf pd__II_V rfl) rfl (hb hby d13_3) rfl e0 (by decide : 0 + 0 ≤ _) (by decide : 0 + 0 ≤ _)
  obtain ⟨rfl, N2q, hh2⟩ := hQ2
  have N2 := Fr.app N0 N2q
  have e2 : T2.heap = h0 := hh2
  obtain ⟨cl3, Ar3, qk3, Sz3, Ng3, Hs3, Gs3⟩ := id hB
  have hin3 : ¬ (p1 < 0 ∨ cl3.slots.size ≤ (p1).toNatClampNeg) := inb_of Sz3 ⟨h1, h2⟩
  have hat3 : cl3.slots[(p1).toNatClampNeg]? = some (.int (own_b ch)) := Hs3.at hin3 t1
  have S4 : ∀ t, oS p e below T2 (mkF m 14 #[rv a0, iv p1] [(.int (((own_b ch) &&& (255 : Int32))).toUInt32.toUInt16.toUInt32.toInt32)]) t → oS p e below s₁ (mkF m 0 #[rv a0, iv p1] []) t := fun t k => id (by
    show oS p e below s₁ (mkF m 0 #[rv a0, iv p1] []) _
    refine XS.iloadN X0.here hx rfl (hb hby d13_0) rfl ?_
    refine XS.aloadN X0.here hx rfl (hb hby d13_1) rfl rfl ?_
    refine X0.arraylength hx (by rw [e0]; exact Ar1.1) (State.isArrayOf_alike hZ.alike Ar1.2.1) (g := (mkF m 2 #[rv a0, iv p1] [(.ref a0), (.int p1)])) rfl rfl (hb hby d13_2) _ ?_
    rw [len_of Sz1 Ng1]
    refine st2 _ ?_
    refine XS.aloadN X2.here hx rfl (hb hby d13_6) rfl rfl ?_
    refine XS.iloadN X2.here hx rfl (hb hby d13_7) rfl ?_
    refine X2.baloadBytes hx (j := p1) (v := (.int (own_b ch))) (by rw [e2]; exact Ar3.1) (State.isArrayOf_alike hZ.alike Ar3.2.1) Ar3.2.2 hin3 hat3 (g := (mkF m 8 #[rv a0, iv p1] [(.int p1), (.ref a0)])) rfl rfl (hb hby d13_8) _ ?_
    refine XT.sipushV X2.here hx rfl (255 : Int32) (hb hby d13_9) (by decide) ?_
    refine XS.iand X2.here hx rfl (hb hby d13_12) rfl ?_
    refine XT.i2c X2.here hx rfl (hb hby d13_13) rfl ?_
    exact k)
  obtain ⟨fs, hr, hrun, hended, hW, hsame⟩ := X2.leave (v := some (.int (nar .char (((own_b ch) &&& (255 : Int32))).toUInt32.toUInt16.toUInt32.toInt32))) (fun h => by rw [Bd.returns] at h; cases h)
  refine ⟨_, _, pre0 _ (S4 _ ?_), hrun, hended, _, _, rfl, ?_, ⟨_, rfl⟩, hW, hsame.mono (by decide) (by decide)⟩
  · exact retN X2 hx (t := .char) Bd.returns (by simp) (hb hby d13_14) hr
  · show QrmLch Z a0 kb z vs p1 fm ch h0 n0 _ T2.heap _
    rw [e2]
    exact ⟨congrArg (fun z => some (Value.int z)) (own_lcv ch hg.1 hg.2), N2, rfl⟩
theorem d11_7 : decode jdk_42_method_56_code 7 = .ok (.aload_n 0, 1) := by decide +kernel
theorem d11_8 : decode jdk_42_method_56_code 8 = .ok (.getfield 9, 3) := by decide +kernel
theorem d11_11 : decode jdk_42_method_56_code 11 = .ok (.iload_n 1, 1) := by decide +kernel
theorem d11_12 : decode jdk_42_method_56_code 12 = .ok (.invokestatic 495, 3) := by decide +kernel
theorem d11_15 : decode jdk_42_method_56_code 15 = .ok (.ireturn, 1) := by decide +kernel
def QrmCh0 (Z : State) (a0 : Addr) (ab : Addr) (kb : ClassId) (wC : Int32) (z : Int32) (vs : List Value) (p1 : Int32) (fm : Value) (ch : Int32) (h0 : Heap) (n0 : Nat) (v : Option Value) (h : Heap) (L : List Loc) : Prop := v = some (.int ch) ∧ Fr n0 L ∧ h = h0
set_option maxRecDepth 65536 in
set_option maxHeartbeats 40000000 in
theorem rmCh0 (l : Launch) (Z : State) (av0 : Array Value) (hw : ∀ d ∈ tables_1, d.before av0 Z = true) (ws : List Jvm.Cond) (a0 : Addr) (ab : Addr) (kb : ClassId) (wC : Int32) (z : Int32) (vs : List Value) (p1 : Int32) (fm : Value) (ch : Int32) (h0 : Heap) (n0 : Nat) (Z0 : n0 ≤ h0.size) (hE : Exa Z h0 a0 "java/lang/String") (hV : Fld Z h0 a0 "java/lang/String" "value" "[B" (.ref ab)) (hC : Fld Z h0 a0 "java/lang/String" "coder" "B" (.int (0 : Int32))) (hB : Arv Z h0 ab kb .byte z vs (.int (0 : Int32))) (hS : Sta Z h0 "java/lang/String" "COMPACT_STRINGS" "Z" (.int wC)) (hw0 : ¬ wC = (0 : Int32)) (hfm : fm.isRef = true) (hF : Sta Z h0 "jdk/internal/util/Preconditions" "SIOOBE_FORMATTER" "Ljava/util/function/BiFunction;" fm) (h1 : ¬ p1 < (0 : Int32)) (h2 : p1 < z) (t1 : vs.getD p1.toNatClampNeg (.int (0 : Int32)) = .int (own_b ch)) (hg : 0 ≤ ch.toInt ∧ ¬ (255 : Int32) < ch) :
    own_Met l mN14 jdk_42_method_56_code 2 (some .char) ws ({ frames := 4, cells := 0, slots := 0, locals := 53 } : Room) #[(.ref a0), (.int p1)] Z h0 (QrmCh0 Z a0 ab kb wC z vs p1 fm ch h0 n0) := by
  refine MetFree.of_bodySF (plainFor_of_name pn_String) hisR ?_
  intro p e s m args below meth c s₁ Bd hml0 hP hK
  obtain ⟨rfl, hZ, hh⟩ := hP
  have hml : c.maxLocals = 2 := hml0
  obtain ⟨hx, hby, hown, hnm, X0, e0⟩ := own_start Bd hml0 hh
  have N0 := Fr.nil n0
  have pre0 : ∀ t, oS p e below s₁ (mkF m 0 #[rv a0, iv p1] []) t → Steps p.tables e below (s₁.setTop (entryFrame m #[(.ref a0), (.int p1)] 2)) t := fun t k => castTop (by first | (simp [entryFrame, mkF, argsToLocals, Value.category]; done) | rfl) k
  obtain ⟨_, T1, Lc1, X1, hQ1, st1⟩ := own_virtual (W := 0) (y := mN9) (z := mN9) X0 hx hZ hown (hw _ (own_w 57 rfl)) (hw _ (own_w 58 rfl)) (notFace_of_selects (args := #[]) (mvT hZ (hw _ (own_w 60 rfl)))) (hw _ (own_w 60 rfl)) (hw _ (own_w 59 rfl)) (hw _ (own_w 61 rfl)) (hw _ (own_w 4 rfl)) (by decide) (rmLat_0 l Z av0 hw [] a0 wC h0 n0 Z0 hS hw0 hC) (by decide) (by decide) hE (g := (mkF m 1 #[rv a0, iv p1] [(.ref a0)])) rfl (by rw [hml]; rfl) (argsL := []) (rest := []) (lenOf pd__Z rfl) rfl (hb hby d11_1) rfl e0 (by decide : 0 + 0 ≤ _) (by decide : 0 + 0 ≤ _)
  obtain ⟨rfl, N1q, hh1⟩ := hQ1
  have N1 := Fr.app N0 N1q
  have e1 : T1.heap = h0 := hh1
  obtain ⟨T2, X2, e2, st2⟩ := getF X1 hx hZ hown (host := "") (Or.inl (hw _ (own_w 21 rfl))) Via.refl e1 hV (g := (mkF m 8 #[rv a0, iv p1] [(.ref a0)])) rfl rfl (hb hby d11_8)
  obtain ⟨_, T3, Lc3, X3, hQ3, st3⟩ := own_callS (W := 0) (y := mN15) X2 hx hZ hown (hw _ (own_w 62 rfl)) (hw _ (own_w 63 rfl)) (hw _ (own_w 64 rfl)) (hw _ (own_w 65 rfl)) (by decide) (rmLch l Z av0 hw [] ab kb z vs p1 fm ch h0 n0 Z0 hB hfm hF  h1 h2 t1 hg) (by decide) (by decide) (g := (mkF m 12 #[rv a0, iv p1] [(.int p1), (.ref ab)])) rfl (by rw [hml]; rfl) (argsL := [(.ref ab), (.int p1)]) (rest := []) (lenOf pd__BI_C rfl) rfl (hb hby d11_12) rfl e2 (by decide : 0 + 0 ≤ _) (by decide : 0 + 0 ≤ _)
  obtain ⟨rfl, N3q, hh3⟩ := hQ3
  have N3 := Fr.app N1 N3q
  have e3 : T3.heap = h0 := hh3
  have S4 : ∀ t, oS p e below T3 (mkF m 15 #[rv a0, iv p1] [(.int ch)]) t → oS p e below s₁ (mkF m 0 #[rv a0, iv p1] []) t := fun t k => id (by
    show oS p e below s₁ (mkF m 0 #[rv a0, iv p1] []) _
    refine XS.aloadN X0.here hx rfl (hb hby d11_0) rfl rfl ?_
    refine st1 _ ?_
    refine XS.ifNo X1.here hx rfl (hb hby d11_4) rfl (XT.i0_eq_f (by decide)) ?_
    refine XS.aloadN X1.here hx rfl (hb hby d11_7) rfl rfl ?_
    refine st2 _ ?_
    refine XS.iloadN X2.here hx rfl (hb hby d11_11) rfl ?_
    refine st3 _ ?_
    exact k)
  obtain ⟨fs, hr, hrun, hended, hW, hsame⟩ := X3.leave (v := some (.int (nar .char ch))) (fun h => by rw [Bd.returns] at h; cases h)
  refine ⟨_, _, pre0 _ (S4 _ ?_), hrun, hended, _, _, rfl, ?_, ⟨_, rfl⟩, hW, hsame.mono (by decide) (by decide)⟩
  · exact retN X3 hx (t := .char) Bd.returns (by simp) (hb hby d11_15) hr
  · show QrmCh0 Z a0 ab kb wC z vs p1 fm ch h0 n0 _ T3.heap _
    rw [e3]
    exact ⟨congrArg (fun z => some (Value.int z)) (own_nar ch hg.1 (by have q := hg.2; rw [Int32.lt_iff_toInt_lt, show (255 : Int32).toInt = 255 from rfl] at q; omega)), N3, rfl⟩
theorem rmChJ_1_0 (l : Launch) (Z : State) (av0 : Array Value) (hw : ∀ d ∈ tables_1, d.before av0 Z = true) (ws : List Jvm.Cond) (a0 : Addr) (wC : Int32) (fm : Value) (c0 : Int32) (h0 : Heap) (n0 : Nat) (Z0 : n0 ≤ h0.size) (hE : Exa Z h0 a0 "java/lang/String") (hSt : own_St1 Z h0 a0 c0) (hS : Sta Z h0 "java/lang/String" "COMPACT_STRINGS" "Z" (.int wC)) (hw0 : ¬ wC = (0 : Int32)) (hfm : fm.isRef = true) (hF : Sta Z h0 "jdk/internal/util/Preconditions" "SIOOBE_FORMATTER" "Ljava/util/function/BiFunction;" fm) (sA : Sta Z h0 "java/lang/StringUTF16" "$assertionsDisabled" "Z" (.int (1 : Int32))) (sH : Sta Z h0 "java/lang/StringUTF16" "HI_BYTE_SHIFT" "I" (.int (0 : Int32))) (sL : Sta Z h0 "java/lang/StringUTF16" "LO_BYTE_SHIFT" "I" (.int (8 : Int32))) (hg : 0 ≤ c0.toInt ∧ c0.toInt < 65536) :
    own_Met l mN14 jdk_42_method_56_code 2 (some .char) ws ({ frames := 4, cells := 0, slots := 0, locals := 53 } : Room) #[(.ref a0), (.int (0 : Int32))] Z h0 (fun v h L => v = some (.int c0) ∧ Fr n0 L ∧ h = h0) := by
  rcases hSt with ⟨ab, kb, hV, hC, hB, lt0⟩ | ⟨ab, kb, hV, hC, hB⟩
  · exact rmCh0 l Z av0 hw ws a0 ab kb wC (1 : Int32) [(.int (own_b c0))] (0 : Int32) fm c0 h0 n0 Z0 hE hV hC hB hS hw0 hfm hF (by decide) (by decide) rfl ⟨hg.1, lt0⟩
  · exact rmCh1 l Z av0 hw ws a0 ab kb wC (2 : Int32) [(.int (own_lo c0)), (.int (own_hi c0))] (0 : Int32) fm c0 h0 n0 Z0 hE hV hC hB hS hw0 hfm hF sA sH sL (by decide) (by decide) (by decide) (by decide) rfl rfl hg
theorem d4_12 : decode prog_60_method_4_code 12 = .ok (.iload_n 1, 1) := by decide +kernel
theorem d4_13 : decode prog_60_method_4_code 13 = .ok (.ifCond .eq 34, 3) := by decide +kernel
theorem d4_16 : decode prog_60_method_4_code 16 = .ok (.aload_n 0, 1) := by decide +kernel
theorem d4_17 : decode prog_60_method_4_code 17 = .ok (.iload_n 2, 1) := by decide +kernel
theorem d4_18 : decode prog_60_method_4_code 18 = .ok (.invokevirtual 53, 3) := by decide +kernel
theorem d4_21 : decode prog_60_method_4_code 21 = .ok (.istore_n 3, 1) := by decide +kernel
theorem d4_22 : decode prog_60_method_4_code 22 = .ok (.iload_n 3, 1) := by decide +kernel
theorem d4_23 : decode prog_60_method_4_code 23 = .ok (.bipush 32, 2) := by decide +kernel
theorem d4_25 : decode prog_60_method_4_code 25 = .ok (.if_icmp .eq 14, 3) := by decide +kernel
theorem d4_28 : decode prog_60_method_4_code 28 = .ok (.iload_n 3, 1) := by decide +kernel
theorem d4_29 : decode prog_60_method_4_code 29 = .ok (.invokestatic 57, 3) := by decide +kernel
theorem d4_32 : decode prog_60_method_4_code 32 = .ok (.ifCond .ne 7, 3) := by decide +kernel
theorem d4_35 : decode prog_60_method_4_code 35 = .ok (.iconst 1, 1) := by decide +kernel
theorem d4_36 : decode prog_60_method_4_code 36 = .ok (.goto 4, 3) := by decide +kernel
theorem d4_39 : decode prog_60_method_4_code 39 = .ok (.iconst 0, 1) := by decide +kernel
theorem d4_40 : decode prog_60_method_4_code 40 = .ok (.istore_n 1, 1) := by decide +kernel
theorem d4_41 : decode prog_60_method_4_code 41 = .ok (.iinc 2 1, 3) := by decide +kernel
theorem d4_44 : decode prog_60_method_4_code 44 = .ok (.goto (-40), 3) := by decide +kernel
theorem pd__I_C : parseMethodDescriptor "(I)C" = some ⟨[.int], some .char⟩ := by decide +kernel
theorem pd__C_Z : parseMethodDescriptor "(C)Z" = some ⟨[.char], some .boolean⟩ := by decide +kernel
def QrmNs_1 (Z : State) (a0 : Addr) (wC : Int32) (fm : Value) (c0 : Int32) (h0 : Heap) (n0 : Nat) (v : Option Value) (h : Heap) (L : List Loc) : Prop := v = some (.int (own_ns [c0])) ∧ Fr n0 L ∧ h = h0
set_option maxRecDepth 65536 in
set_option maxHeartbeats 40000000 in
theorem rmNs_1 (l : Launch) (Z : State) (av0 : Array Value) (hw : ∀ d ∈ tables_1, d.before av0 Z = true) (ws : List Jvm.Cond) (a0 : Addr) (wC : Int32) (fm : Value) (c0 : Int32) (h0 : Heap) (n0 : Nat) (Z0 : n0 ≤ h0.size) (hE : Exa Z h0 a0 "java/lang/String") (hSt : own_St1 Z h0 a0 c0) (hS : Sta Z h0 "java/lang/String" "COMPACT_STRINGS" "Z" (.int wC)) (hw0 : ¬ wC = (0 : Int32)) (hfm : fm.isRef = true) (hF : Sta Z h0 "jdk/internal/util/Preconditions" "SIOOBE_FORMATTER" "Ljava/util/function/BiFunction;" fm) (sA : Sta Z h0 "java/lang/StringUTF16" "$assertionsDisabled" "Z" (.int (1 : Int32))) (sH : Sta Z h0 "java/lang/StringUTF16" "HI_BYTE_SHIFT" "I" (.int (0 : Int32))) (sL : Sta Z h0 "java/lang/StringUTF16" "LO_BYTE_SHIFT" "I" (.int (8 : Int32))) (hg0 : 0 ≤ c0.toInt ∧ c0.toInt < 65536) :
    own_Met l mN6 prog_60_method_4_code 4 (some .boolean) ws ({ frames := 5, cells := 0, slots := 0, locals := 66 } : Room) #[(.ref a0)] Z h0 (QrmNs_1 Z a0 wC fm c0 h0 n0) := by
  refine MetFree.of_bodySF (plainFor_of_name pn_XsNames) hisR ?_
  intro p e s m args below meth c s₁ Bd hml0 hP hK
  obtain ⟨rfl, hZ, hh⟩ := hP
  have hml : c.maxLocals = 4 := hml0
  obtain ⟨hx, hby, hown, hnm, X0, e0⟩ := own_start Bd hml0 hh
  have N0 := Fr.nil n0
  have pre0 : ∀ t, oS p e below s₁ (mkF m 0 #[rv a0, .unset, .unset, .unset] []) t → Steps p.tables e below (s₁.setTop (entryFrame m #[(.ref a0)] 4)) t := fun t k => castTop (by first | (simp [entryFrame, mkF, argsToLocals, Value.category]; done) | rfl) k
  obtain ⟨_, T1, Lc1, X1, hQ1, st1⟩ := own_virtual (W := 1) (y := mN5) (z := mN5) X0 hx hZ hown (hw _ (own_w 27 rfl)) (hw _ (own_w 28 rfl)) (notFace_of_selects (args := #[]) (mvT hZ (hw _ (own_w 30 rfl)))) (hw _ (own_w 30 rfl)) (hw _ (own_w 29 rfl)) (hw _ (own_w 31 rfl)) (hw _ (own_w 4 rfl)) (by decide) (rmLenJ_1 l Z av0 hw [] a0 wC fm c0 h0 n0 Z0 hE hSt hS hw0) (by decide) (by decide) hE (g := (mkF m 6 #[rv a0, iv 1, iv 0, .unset] [(.ref a0), (.int 0)])) rfl (by rw [hml]; rfl) (argsL := []) (rest := [(.int 0)]) (lenOf pd__I rfl) rfl (hb hby d4_6) rfl e0 (by decide : 0 + 0 ≤ _) (by decide : 0 + 0 ≤ _)
  obtain ⟨rfl, N1q, hh1⟩ := hQ1
  have N1 := Fr.app N0 N1q
  have e1 : T1.heap = h0 := hh1
  obtain ⟨_, T2, Lc2, X2, hQ2, st2⟩ := own_virtual (W := 0) (y := mN14) (z := mN14) X1 hx hZ hown (hw _ (own_w 52 rfl)) (hw _ (own_w 53 rfl)) (notFace_of_selects (args := #[]) (mvT hZ (hw _ (own_w 55 rfl)))) (hw _ (own_w 55 rfl)) (hw _ (own_w 54 rfl)) (hw _ (own_w 56 rfl)) (hw _ (own_w 4 rfl)) (by decide) (rmChJ_1_0 l Z av0 hw [] a0 wC fm c0 h0 n0 Z0 hE hSt hS hw0 hfm hF sA sH sL hg0) (by decide) (by decide) hE (g := (mkF m 18 #[rv a0, iv 1, iv 0, .unset] [(.int 0), (.ref a0)])) rfl (by rw [hml]; rfl) (argsL := [(.int 0)]) (rest := []) (lenOf pd__I_C rfl) rfl (hb hby d4_18) rfl e1 (by decide : 0 + 0 ≤ _) (by decide : 0 + 0 ≤ _)
  obtain ⟨rfl, N2q, hh2⟩ := hQ2
  have N2 := Fr.app N1 N2q
  have e2 : T2.heap = h0 := hh2
  have S3 : ∀ t, oS p e below T2 (mkF m 25 #[rv a0, iv 1, iv 0, iv c0] [(.int 32), (.int c0)]) t → oS p e below s₁ (mkF m 0 #[rv a0, .unset, .unset, .unset] []) t := fun t k => id (by
    show oS p e below s₁ (mkF m 0 #[rv a0, .unset, .unset, .unset] []) _
    refine XT.iconstV X0.here hx rfl (1 : Int32) (hb hby d4_0) (by decide) ?_
    refine XS.istoreN X0.here hx rfl (hb hby d4_1) rfl (l' := #[rv a0, iv 1, .unset, .unset]) rfl ?_
    refine XT.iconstV X0.here hx rfl (0 : Int32) (hb hby d4_2) (by decide) ?_
    refine XS.istoreN X0.here hx rfl (hb hby d4_3) rfl (l' := #[rv a0, iv 1, iv 0, .unset]) rfl ?_
    refine XS.iloadN X0.here hx rfl (hb hby d4_4) rfl ?_
    refine XS.aloadN X0.here hx rfl (hb hby d4_5) rfl rfl ?_
    refine st1 _ ?_
    refine XS.icmpNo X1.here hx rfl (hb hby d4_9) rfl (XT.ii_ge_f (by decide)) ?_
    refine XS.iloadN X1.here hx rfl (hb hby d4_12) rfl ?_
    refine XS.ifNo X1.here hx rfl (hb hby d4_13) rfl (XT.i0_eq_f (by decide)) ?_
    refine XS.aloadN X1.here hx rfl (hb hby d4_16) rfl rfl ?_
    refine XS.iloadN X1.here hx rfl (hb hby d4_17) rfl ?_
    refine st2 _ ?_
    refine XS.istoreN X2.here hx rfl (hb hby d4_21) rfl (l' := #[rv a0, iv 1, iv 0, iv c0]) rfl ?_
    refine XS.iloadN X2.here hx rfl (hb hby d4_22) rfl ?_
    refine XT.bipushV X2.here hx rfl (32 : Int32) (hb hby d4_23) (by decide) ?_
    exact k)
  by_cases hc25_4 : c0 = (32 : Int32)
  · obtain ⟨_, T5, Lc5, X5, hQ5, st5⟩ := own_virtual (W := 1) (y := mN5) (z := mN5) X2 hx hZ hown (hw _ (own_w 27 rfl)) (hw _ (own_w 28 rfl)) (notFace_of_selects (args := #[]) (mvT hZ (hw _ (own_w 30 rfl)))) (hw _ (own_w 30 rfl)) (hw _ (own_w 29 rfl)) (hw _ (own_w 31 rfl)) (hw _ (own_w 4 rfl)) (by decide) (rmLenJ_1 l Z av0 hw [] a0 wC fm c0 h0 n0 Z0 hE hSt hS hw0) (by decide) (by decide) hE (g := (mkF m 6 #[rv a0, iv 0, iv 1, iv c0] [(.ref a0), (.int 1)])) rfl (by rw [hml]; rfl) (argsL := []) (rest := [(.int 1)]) (lenOf pd__I rfl) rfl (hb hby d4_6) rfl e2 (by decide : 0 + 0 ≤ _) (by decide : 0 + 0 ≤ _)
    obtain ⟨rfl, N5q, hh5⟩ := hQ5
    have N5 := Fr.app N2 N5q
    have e5 : T5.heap = h0 := hh5
    have S6 : ∀ t, oS p e below T5 (mkF m 48 #[rv a0, iv 0, iv 1, iv c0] [(.int 0)]) t → oS p e below s₁ (mkF m 0 #[rv a0, .unset, .unset, .unset] []) t := fun t k => S3 t (by
      show oS p e below T2 (mkF m 25 #[rv a0, iv 1, iv 0, iv c0] [(.int 32), (.int c0)]) _
      refine XS.icmpYes X2.here hx rfl (pc0 := 25) (pc' := 39) rfl (hb hby d4_25) rfl (XT.ii_eq_t hc25_4) (by decide) (by decide) ?_
      refine XT.iconstV X2.here hx rfl (0 : Int32) (hb hby d4_39) (by decide) ?_
      refine XS.istoreN X2.here hx rfl (hb hby d4_40) rfl (l' := #[rv a0, iv 0, iv 0, iv c0]) rfl ?_
      refine XT.iincV X2.here hx rfl (1 : Int32) (hb hby d4_41) (by decide) rfl (l' := #[rv a0, iv 0, iv 1, iv c0]) rfl ?_
      show oS p e below T2 (mkF m 44 #[rv a0, iv 0, iv 1, iv c0] []) _
      refine XS.goto X2.here hx rfl (pc0 := 44) (pc' := 4) rfl (hb hby d4_44) (by decide) (by decide) ?_
      refine XS.iloadN X2.here hx rfl (hb hby d4_4) rfl ?_
      refine XS.aloadN X2.here hx rfl (hb hby d4_5) rfl rfl ?_
      refine st5 _ ?_
      refine XS.icmpYes X5.here hx rfl (pc0 := 9) (pc' := 47) rfl (hb hby d4_9) rfl (XT.ii_ge_t (by decide)) (by decide) (by decide) ?_
      refine XS.iloadN X5.here hx rfl (hb hby d4_47) rfl ?_
      exact k)
    obtain ⟨fs, hr, hrun, hended, hW, hsame⟩ := X5.leave (v := some (.int 0)) (fun h => by rw [Bd.returns] at h; cases h)
    refine ⟨_, _, pre0 _ (S6 _ ?_), hrun, hended, _, _, rfl, ?_, ⟨_, rfl⟩, hW, hsame.mono (by decide) (by decide)⟩
    · exact retN X5 hx (t := .boolean) Bd.returns (by simp) (hb hby d4_48) hr
    · show QrmNs_1 Z a0 wC fm c0 h0 n0 _ T5.heap _
      rw [e5]
      exact ⟨by simp [own_ns, hc25_4], N5, rfl⟩
  · obtain ⟨_, T7, Lc7, X7, hQ7, st7⟩ := own_callS (W := 0) (y := mN0) X2 hx hZ hown (hw _ (own_w 74 rfl)) (hw _ (own_w 75 rfl)) (hw _ (own_w 76 rfl)) (hw _ (own_w 77 rfl)) (by decide) (rmB l Z av0 hw [] c0 h0 n0 Z0 ) (by decide) (by decide) (g := (mkF m 29 #[rv a0, iv 1, iv 0, iv c0] [(.int c0)])) rfl (by rw [hml]; rfl) (argsL := [(.int c0)]) (rest := []) (lenOf pd__C_Z rfl) rfl (hb hby d4_29) rfl e2 (by decide : 0 + 0 ≤ _) (by decide : 0 + 0 ≤ _)
    obtain ⟨rfl, N7q, hh7⟩ := hQ7
    have N7 := Fr.app N2 N7q
    have e7 : T7.heap = h0 := hh7
    have S8 : ∀ t, oS p e below T7 (mkF m 32 #[rv a0, iv 1, iv 0, iv c0] [(.int (own_bl c0))]) t → oS p e below s₁ (mkF m 0 #[rv a0, .unset, .unset, .unset] []) t := fun t k => S3 t (by
      show oS p e below T2 (mkF m 25 #[rv a0, iv 1, iv 0, iv c0] [(.int 32), (.int c0)]) _
      refine XS.icmpNo X2.here hx rfl (hb hby d4_25) rfl (XT.ii_eq_f hc25_4) ?_
      refine XS.iloadN X2.here hx rfl (hb hby d4_28) rfl ?_
      refine st7 _ ?_
      exact k)
    by_cases hc32_9 : (own_bl c0) = (0 : Int32)
    · obtain ⟨_, T10, Lc10, X10, hQ10, st10⟩ := own_virtual (W := 1) (y := mN5) (z := mN5) X7 hx hZ hown (hw _ (own_w 27 rfl)) (hw _ (own_w 28 rfl)) (notFace_of_selects (args := #[]) (mvT hZ (hw _ (own_w 30 rfl)))) (hw _ (own_w 30 rfl)) (hw _ (own_w 29 rfl)) (hw _ (own_w 31 rfl)) (hw _ (own_w 4 rfl)) (by decide) (rmLenJ_1 l Z av0 hw [] a0 wC fm c0 h0 n0 Z0 hE hSt hS hw0) (by decide) (by decide) hE (g := (mkF m 6 #[rv a0, iv 1, iv 1, iv c0] [(.ref a0), (.int 1)])) rfl (by rw [hml]; rfl) (argsL := []) (rest := [(.int 1)]) (lenOf pd__I rfl) rfl (hb hby d4_6) rfl e7 (by decide : 0 + 0 ≤ _) (by decide : 0 + 0 ≤ _)
      obtain ⟨rfl, N10q, hh10⟩ := hQ10
      have N10 := Fr.app N7 N10q
      have e10 : T10.heap = h0 := hh10
      have S11 : ∀ t, oS p e below T10 (mkF m 48 #[rv a0, iv 1, iv 1, iv c0] [(.int 1)]) t → oS p e below s₁ (mkF m 0 #[rv a0, .unset, .unset, .unset] []) t := fun t k => S8 t (by
        show oS p e below T7 (mkF m 32 #[rv a0, iv 1, iv 0, iv c0] [(.int (own_bl c0))]) _
        refine XS.ifNo X7.here hx rfl (hb hby d4_32) rfl (XT.i0_ne_f hc32_9) ?_
        show oS p e below T7 (mkF m 35 #[rv a0, iv 1, iv 0, iv c0] []) _
        refine XT.iconstV X7.here hx rfl (1 : Int32) (hb hby d4_35) (by decide) ?_
        refine XS.goto X7.here hx rfl (pc0 := 36) (pc' := 40) rfl (hb hby d4_36) (by decide) (by decide) ?_
        refine XS.istoreN X7.here hx rfl (hb hby d4_40) rfl (l' := #[rv a0, iv 1, iv 0, iv c0]) rfl ?_
        refine XT.iincV X7.here hx rfl (1 : Int32) (hb hby d4_41) (by decide) rfl (l' := #[rv a0, iv 1, iv 1, iv c0]) rfl ?_
        refine XS.goto X7.here hx rfl (pc0 := 44) (pc' := 4) rfl (hb hby d4_44) (by decide) (by decide) ?_
        refine XS.iloadN X7.here hx rfl (hb hby d4_4) rfl ?_
        refine XS.aloadN X7.here hx rfl (hb hby d4_5) rfl rfl ?_
        refine st10 _ ?_
        refine XS.icmpYes X10.here hx rfl (pc0 := 9) (pc' := 47) rfl (hb hby d4_9) rfl (XT.ii_ge_t (by decide)) (by decide) (by decide) ?_
        refine XS.iloadN X10.here hx rfl (hb hby d4_47) rfl ?_
        exact k)
      obtain ⟨fs, hr, hrun, hended, hW, hsame⟩ := X10.leave (v := some (.int 1)) (fun h => by rw [Bd.returns] at h; cases h)
      refine ⟨_, _, pre0 _ (S11 _ ?_), hrun, hended, _, _, rfl, ?_, ⟨_, rfl⟩, hW, hsame.mono (by decide) (by decide)⟩
      · exact retN X10 hx (t := .boolean) Bd.returns (by simp) (hb hby d4_48) hr
      · show QrmNs_1 Z a0 wC fm c0 h0 n0 _ T10.heap _
        rw [e10]
        exact ⟨by simp [own_ns, hc25_4, hc32_9], N10, rfl⟩
    · obtain ⟨_, T12, Lc12, X12, hQ12, st12⟩ := own_virtual (W := 1) (y := mN5) (z := mN5) X7 hx hZ hown (hw _ (own_w 27 rfl)) (hw _ (own_w 28 rfl)) (notFace_of_selects (args := #[]) (mvT hZ (hw _ (own_w 30 rfl)))) (hw _ (own_w 30 rfl)) (hw _ (own_w 29 rfl)) (hw _ (own_w 31 rfl)) (hw _ (own_w 4 rfl)) (by decide) (rmLenJ_1 l Z av0 hw [] a0 wC fm c0 h0 n0 Z0 hE hSt hS hw0) (by decide) (by decide) hE (g := (mkF m 6 #[rv a0, iv 0, iv 1, iv c0] [(.ref a0), (.int 1)])) rfl (by rw [hml]; rfl) (argsL := []) (rest := [(.int 1)]) (lenOf pd__I rfl) rfl (hb hby d4_6) rfl e7 (by decide : 0 + 0 ≤ _) (by decide : 0 + 0 ≤ _)
      obtain ⟨rfl, N12q, hh12⟩ := hQ12
      have N12 := Fr.app N7 N12q
      have e12 : T12.heap = h0 := hh12
      have S13 : ∀ t, oS p e below T12 (mkF m 48 #[rv a0, iv 0, iv 1, iv c0] [(.int 0)]) t → oS p e below s₁ (mkF m 0 #[rv a0, .unset, .unset, .unset] []) t := fun t k => S8 t (by
        show oS p e below T7 (mkF m 32 #[rv a0, iv 1, iv 0, iv c0] [(.int (own_bl c0))]) _
        refine XS.ifYes X7.here hx rfl (pc0 := 32) (pc' := 39) rfl (hb hby d4_32) rfl (XT.i0_ne_t hc32_9) (by decide) (by decide) ?_
        show oS p e below T7 (mkF m 39 #[rv a0, iv 1, iv 0, iv c0] []) _
        refine XT.iconstV X7.here hx rfl (0 : Int32) (hb hby d4_39) (by decide) ?_
        refine XS.istoreN X7.here hx rfl (hb hby d4_40) rfl (l' := #[rv a0, iv 0, iv 0, iv c0]) rfl ?_
        refine XT.iincV X7.here hx rfl (1 : Int32) (hb hby d4_41) (by decide) rfl (l' := #[rv a0, iv 0, iv 1, iv c0]) rfl ?_
        refine XS.goto X7.here hx rfl (pc0 := 44) (pc' := 4) rfl (hb hby d4_44) (by decide) (by decide) ?_
        refine XS.iloadN X7.here hx rfl (hb hby d4_4) rfl ?_
        refine XS.aloadN X7.here hx rfl (hb hby d4_5) rfl rfl ?_
        refine st12 _ ?_
        refine XS.icmpYes X12.here hx rfl (pc0 := 9) (pc' := 47) rfl (hb hby d4_9) rfl (XT.ii_ge_t (by decide)) (by decide) (by decide) ?_
        refine XS.iloadN X12.here hx rfl (hb hby d4_47) rfl ?_
        exact k)
      obtain ⟨fs, hr, hrun, hended, hW, hsame⟩ := X12.leave (v := some (.int 0)) (fun h => by rw [Bd.returns] at h; cases h)
      refine ⟨_, _, pre0 _ (S13 _ ?_), hrun, hended, _, _, rfl, ?_, ⟨_, rfl⟩, hW, hsame.mono (by decide) (by decide)⟩
      · exact retN X12 hx (t := .boolean) Bd.returns (by simp) (hb hby d4_48) hr
      · show QrmNs_1 Z a0 wC fm c0 h0 n0 _ T12.heap _
        rw [e12]
        exact ⟨by simp [own_ns, hc25_4, hc32_9], N12, rfl⟩
theorem d8_0 : decode jdk_52_method_21_code 0 = .ok (.iconst 0, 1) := by decide +kernel
theorem d8_1 : decode jdk_52_method_21_code 1 = .ok (.istore 5, 2) := by decide +kernel
theorem d8_3 : decode jdk_52_method_21_code 3 = .ok (.iload 5, 2) := by decide +kernel
theorem d8_5 : decode jdk_52_method_21_code 5 = .ok (.iload 4, 2) := by decide +kernel
theorem d8_7 : decode jdk_52_method_21_code 7 = .ok (.if_icmp .ge 37, 3) := by decide +kernel
theorem d8_10 : decode jdk_52_method_21_code 10 = .ok (.aload_n 0, 1) := by decide +kernel
theorem d8_11 : decode jdk_52_method_21_code 11 = .ok (.iload_n 1, 1) := by decide +kernel
theorem d8_12 : decode jdk_52_method_21_code 12 = .ok (.caload, 1) := by decide +kernel
theorem d8_13 : decode jdk_52_method_21_code 13 = .ok (.istore 6, 2) := by decide +kernel
theorem d8_15 : decode jdk_52_method_21_code 15 = .ok (.iload 6, 2) := by decide +kernel
theorem d8_17 : decode jdk_52_method_21_code 17 = .ok (.sipush 255, 3) := by decide +kernel
theorem d8_20 : decode jdk_52_method_21_code 20 = .ok (.if_icmp .le 6, 3) := by decide +kernel
theorem d8_23 : decode jdk_52_method_21_code 23 = .ok (.iload 5, 2) := by decide +kernel
theorem d8_25 : decode jdk_52_method_21_code 25 = .ok (.ireturn, 1) := by decide +kernel
def QrmCp5_1_0 (Z : State) (a0 : Addr) (a2 : Addr) (ka : ClassId) (kb : ClassId) (c0 : Int32) (h0 : Heap) (n0 : Nat) (v : Option Value) (h : Heap) (L : List Loc) : Prop := v = some (.int (0 : Int32)) ∧ Fr n0 L ∧ Keep h0 h [a2] ∧ Arv Z h a2 kb .byte (1 : Int32) [(.int (0 : Int32))] (.int (0 : Int32))
set_option maxRecDepth 65536 in
set_option maxHeartbeats 40000000 in
theorem rmCp5_1_0 (l : Launch) (Z : State) (av0 : Array Value) (hw : ∀ d ∈ tables_1, d.before av0 Z = true) (ws : List Jvm.Cond) (a0 : Addr) (a2 : Addr) (ka : ClassId) (kb : ClassId) (c0 : Int32) (h0 : Heap) (n0 : Nat) (Z0 : n0 ≤ h0.size) (hA : Arv Z h0 a0 ka .char (1 : Int32) [(.int c0)] (.int (0 : Int32))) (hB : Arv Z h0 a2 kb .byte (1 : Int32) [(.int (0 : Int32))] (.int (0 : Int32))) (hne : a0 ≠ a2) (hge : n0 ≤ a2) (hbg : (255 : Int32) < c0) :
    own_Met l mN16 jdk_52_method_21_code 7 (some .int) ws ({ frames := 0, cells := 0, slots := 0, locals := 0 } : Room) #[(.ref a0), (.int 0), (.ref a2), (.int 0), (.int 1)] Z h0 (QrmCp5_1_0 Z a0 a2 ka kb c0 h0 n0) := by
  refine MetFree.of_bodySF (plainFor_of_name pn_StringUTF16) hisR ?_
  intro p e s m args below meth c s₁ Bd hml0 hP hK
  obtain ⟨rfl, hZ, hh⟩ := hP
  have hml : c.maxLocals = 7 := hml0
  obtain ⟨hx, hby, hown, hnm, X0, e0⟩ := own_start Bd hml0 hh
  have N0 := Fr.nil n0
  have pre0 : ∀ t, oS p e below s₁ (mkF m 0 #[rv a0, iv 0, rv a2, iv 0, iv 1, .unset, .unset] []) t → Steps p.tables e below (s₁.setTop (entryFrame m #[(.ref a0), (.int 0), (.ref a2), (.int 0), (.int 1)] 7)) t := fun t k => castTop (by first | (simp [entryFrame, mkF, argsToLocals, Value.category]; done) | rfl) k
  obtain ⟨cl1, Ar1, qk1, Sz1, Ng1, Hs1, Gs1⟩ := id hA
  have hin1 : ¬ ((0 : Int32) < 0 ∨ cl1.slots.size ≤ ((0 : Int32)).toNatClampNeg) := inb_of Sz1 ⟨by decide, by decide⟩
  have hat1 : cl1.slots[((0 : Int32)).toNatClampNeg]? = some (.int c0) := Hs1.at hin1 rfl
  have S2 : ∀ t, oS p e below s₁ (mkF m 25 #[rv a0, iv 0, rv a2, iv 0, iv 1, iv 0, iv c0] [(.int 0)]) t → oS p e below s₁ (mkF m 0 #[rv a0, iv 0, rv a2, iv 0, iv 1, .unset, .unset] []) t := fun t k => id (by
    show oS p e below s₁ (mkF m 0 #[rv a0, iv 0, rv a2, iv 0, iv 1, .unset, .unset] []) _
    refine XT.iconstV X0.here hx rfl (0 : Int32) (hb hby d8_0) (by decide) ?_
    refine XS.istore X0.here hx rfl (hb hby d8_1) rfl (l' := #[rv a0, iv 0, rv a2, iv 0, iv 1, iv 0, .unset]) rfl ?_
    refine XS.iload X0.here hx rfl (hb hby d8_3) rfl ?_
    refine XS.iload X0.here hx rfl (hb hby d8_5) rfl ?_
    refine XS.icmpNo X0.here hx rfl (hb hby d8_7) rfl (XT.ii_ge_f (by decide)) ?_
    refine XS.aloadN X0.here hx rfl (hb hby d8_10) rfl rfl ?_
    refine XS.iloadN X0.here hx rfl (hb hby d8_11) rfl ?_
    refine X0.caload hx (j := (0 : Int32)) (v := (.int c0)) (by rw [e0]; exact Ar1.1) (State.isArrayOf_alike hZ.alike Ar1.2.1) Ar1.2.2 hin1 hat1 (g := (mkF m 12 #[rv a0, iv 0, rv a2, iv 0, iv 1, iv 0, .unset] [(.int 0), (.ref a0)])) rfl rfl (hb hby d8_12) _ ?_
    refine XS.istore X0.here hx rfl (hb hby d8_13) rfl (l' := #[rv a0, iv 0, rv a2, iv 0, iv 1, iv 0, iv c0]) rfl ?_
    refine XS.iload X0.here hx rfl (hb hby d8_15) rfl ?_
    refine XT.sipushV X0.here hx rfl (255 : Int32) (hb hby d8_17) (by decide) ?_
    refine XS.icmpNo X0.here hx rfl (hb hby d8_20) rfl (XT.ii_le_f hbg) ?_
    refine XS.iload X0.here hx rfl (hb hby d8_23) rfl ?_
    exact k)
  obtain ⟨fs, hr, hrun, hended, hW, hsame⟩ := X0.leave (v := some (.int 0)) (fun h => by rw [Bd.returns] at h; cases h)
  refine ⟨_, _, pre0 _ (S2 _ ?_), hrun, hended, _, _, rfl, ?_, ⟨_, rfl⟩, hW, hsame.mono (by decide) (by decide)⟩
  · exact retI X0 hx Bd.returns (hb hby d8_25) hr
  · show QrmCp5_1_0 Z a0 a2 ka kb c0 h0 n0 _ s₁.heap _
    rw [e0]
    exact ⟨congrArg (fun z => some (Value.int z)) (by decide), N0, (Keep.refl _ _), hB⟩
theorem d19_0 : decode jdk_52_method_3_code 0 = .ok (.iload_n 0, 1) := by decide +kernel
theorem d19_1 : decode jdk_52_method_3_code 1 = .ok (.ifCond .ge 11, 3) := by decide +kernel
theorem d19_12 : decode jdk_52_method_3_code 12 = .ok (.iload_n 0, 1) := by decide +kernel
theorem d19_13 : decode jdk_52_method_3_code 13 = .ok (.ldc 20, 2) := by decide +kernel
theorem d19_15 : decode jdk_52_method_3_code 15 = .ok (.if_icmp .lt 40, 3) := by decide +kernel
theorem d19_55 : decode jdk_52_method_3_code 55 = .ok (.iload_n 0, 1) := by decide +kernel
theorem d19_56 : decode jdk_52_method_3_code 56 = .ok (.iconst 1, 1) := by decide +kernel
theorem d19_57 : decode jdk_52_method_3_code 57 = .ok (.ishl, 1) := by decide +kernel
theorem d19_58 : decode jdk_52_method_3_code 58 = .ok (.ireturn, 1) := by decide +kernel
def QrmNbl_1 (Z : State)  (h0 : Heap) (n0 : Nat) (v : Option Value) (h : Heap) (L : List Loc) : Prop := v = some (.int (2 : Int32)) ∧ Fr n0 L ∧ h = h0
set_option maxRecDepth 65536 in
set_option maxHeartbeats 40000000 in
theorem rmNbl_1 (l : Launch) (Z : State) (av0 : Array Value) (hw : ∀ d ∈ tables_1, d.before av0 Z = true) (ws : List Jvm.Cond)  (h0 : Heap) (n0 : Nat) (Z0 : n0 ≤ h0.size)  :
    own_Met l mN17 jdk_52_method_3_code 1 (some .int) ws ({ frames := 0, cells := 0, slots := 0, locals := 0 } : Room) #[(.int 1)] Z h0 (QrmNbl_1 Z  h0 n0) := by
  refine MetFree.of_bodySF (plainFor_of_name pn_StringUTF16) hisR ?_
  intro p e s m args below meth c s₁ Bd hml0 hP hK
  obtain ⟨rfl, hZ, hh⟩ := hP
  have hml : c.maxLocals = 1 := hml0
  obtain ⟨hx, hby, hown, hnm, X0, e0⟩ := own_start Bd hml0 hh
  have N0 := Fr.nil n0
  have pre0 : ∀ t, oS p e below s₁ (mkF m 0 #[iv 1] []) t → Steps p.tables e below (s₁.setTop (entryFrame m #[(.int 1)] 1)) t := fun t k => castTop (by first | (simp [entryFrame, mkF, argsToLocals, Value.category]; done) | rfl) k
  have S1 : ∀ t, oS p e below s₁ (mkF m 58 #[iv 1] [(.int 2)]) t → oS p e below s₁ (mkF m 0 #[iv 1] []) t := fun t k => id (by
    show oS p e below s₁ (mkF m 0 #[iv 1] []) _
    refine XS.iloadN X0.here hx rfl (hb hby d19_0) rfl ?_
    refine XS.ifYes X0.here hx rfl (pc0 := 1) (pc' := 12) rfl (hb hby d19_1) rfl (XT.i0_ge_t (by decide)) (by decide) (by decide) ?_
    refine XS.iloadN X0.here hx rfl (hb hby d19_12) rfl ?_
    refine X0.ldcI hx hown (mvT hZ (hw _ (own_w 87 rfl))) rfl (hb hby d19_13) ?_
    refine XS.icmpYes X0.here hx rfl (pc0 := 15) (pc' := 55) rfl (hb hby d19_15) rfl (XT.ii_lt_t (by decide)) (by decide) (by decide) ?_
    refine XS.iloadN X0.here hx rfl (hb hby d19_55) rfl ?_
    refine XT.iconstV X0.here hx rfl (1 : Int32) (hb hby d19_56) (by decide) ?_
    refine XT.ishl X0.here hx rfl (hb hby d19_57) rfl ?_
    exact k)
  obtain ⟨fs, hr, hrun, hended, hW, hsame⟩ := X0.leave (v := some (.int 2)) (fun h => by rw [Bd.returns] at h; cases h)
  refine ⟨_, _, pre0 _ (S1 _ ?_), hrun, hended, _, _, rfl, ?_, ⟨_, rfl⟩, hW, hsame.mono (by decide) (by decide)⟩
  · exact retI X0 hx Bd.returns (hb hby d19_58) hr
  · show QrmNbl_1 Z  h0 n0 _ s₁.heap _
    rw [e0]
    exact ⟨congrArg (fun z => some (Value.int z)) (by decide), N0, rfl⟩
theorem d18_0 : decode jdk_52_method_2_code 0 = .ok (.iload_n 0, 1) := by decide +kernel
theorem d18_1 : decode jdk_52_method_2_code 1 = .ok (.invokestatic 11, 3) := by decide +kernel
theorem d18_4 : decode jdk_52_method_2_code 4 = .ok (.newarray .byte, 2) := by decide +kernel
theorem d18_6 : decode jdk_52_method_2_code 6 = .ok (.areturn, 1) := by decide +kernel
theorem pd__I_I : parseMethodDescriptor "(I)I" = some ⟨[.int], some .int⟩ := by decide +kernel
def QrmNbf_1 (Z : State)  (h0 : Heap) (n0 : Nat) (v : Option Value) (h : Heap) (L : List Loc) : Prop := ∃ (b : Addr) (k : ClassId), v = some (.ref b) ∧ Fr n0 L ∧ h0.size ≤ b ∧ Keep h0 h [] ∧ Arv Z h b k .byte (2 : Int32) [(.int (0 : Int32)), (.int (0 : Int32))] (.int (0 : Int32))
set_option maxRecDepth 65536 in
set_option maxHeartbeats 40000000 in
theorem rmNbf_1 (l : Launch) (Z : State) (av0 : Array Value) (hw : ∀ d ∈ tables_1, d.before av0 Z = true) (ws : List Jvm.Cond)  (h0 : Heap) (n0 : Nat) (Z0 : n0 ≤ h0.size)  :
    own_Met l mN18 jdk_52_method_2_code 1 (some (.array .byte)) ws ({ frames := 1, cells := 1, slots := 2, locals := 12 } : Room) #[(.int 1)] Z h0 (QrmNbf_1 Z  h0 n0) := by
  refine MetFree.of_bodySF (plainFor_of_name pn_StringUTF16) hisR ?_
  intro p e s m args below meth c s₁ Bd hml0 hP hK
  obtain ⟨rfl, hZ, hh⟩ := hP
  have hml : c.maxLocals = 1 := hml0
  obtain ⟨hx, hby, hown, hnm, X0, e0⟩ := own_start Bd hml0 hh
  have N0 := Fr.nil n0
  have pre0 : ∀ t, oS p e below s₁ (mkF m 0 #[iv 1] []) t → Steps p.tables e below (s₁.setTop (entryFrame m #[(.int 1)] 1)) t := fun t k => castTop (by first | (simp [entryFrame, mkF, argsToLocals, Value.category]; done) | rfl) k
  obtain ⟨_, T1, Lc1, X1, hQ1, st1⟩ := own_callS (W := 0) (y := mN17) X0 hx hZ hown (hw _ (own_w 84 rfl)) (hw _ (own_w 85 rfl)) (hw _ (own_w 40 rfl)) (hw _ (own_w 86 rfl)) (by decide) (rmNbl_1 l Z av0 hw []  h0 n0 Z0 ) (by decide) (by decide) (g := (mkF m 1 #[iv 1] [(.int 1)])) rfl (by rw [hml]; rfl) (argsL := [(.int 1)]) (rest := []) (lenOf pd__I_I rfl) rfl (hb hby d18_1) rfl e0 (by decide : 0 + 0 ≤ _) (by decide : 0 + 0 ≤ _)
  obtain ⟨rfl, N1q, hh1⟩ := hQ1
  have N1 := Fr.app N0 N1q
  have e1 : T1.heap = h0 := hh1
  obtain ⟨T2, h2, k2, X2, e2, E2, A2, st2⟩ := newP X1 hx hZ (hw _ (own_w 16 rfl)) e1 (g := (mkF m 4 #[iv 1] [(.int 2)])) rfl (hb hby d18_4) rfl (by decide) (cap := 2) (by decide) (by decide) (by decide) (by decide)
  obtain ⟨b2, g2⟩ : ∃ z, z = h0.size := ⟨_, rfl⟩
  rw [← g2] at A2 st2
  have ge_b2 : n0 ≤ b2 := Nat.le_trans Z0 (Nat.le_of_eq g2.symm)
  have sz_b2 : h0.size ≤ b2 := Nat.le_of_eq g2.symm
  have Z2 : n0 ≤ h2.size := Nat.le_trans Z0 E2.1
  have K2 : Keep h0 h2 [] := (Keep.refl h0 []).ext E2
  have V2 : Arv Z h2 b2 k2 .byte (2 : Int32) [(.int (0 : Int32)), (.int (0 : Int32))] (.int (0 : Int32)) := (Arv.new A2 (by decide)).pad (pad_rep [] (.int (0 : Int32)) 2)
  have S3 : ∀ t, oS p e below T2 (mkF m 6 #[iv 1] [(.ref b2)]) t → oS p e below s₁ (mkF m 0 #[iv 1] []) t := fun t k => id (by
    show oS p e below s₁ (mkF m 0 #[iv 1] []) _
    refine XS.iloadN X0.here hx rfl (hb hby d18_0) rfl ?_
    refine st1 _ ?_
    refine st2 _ ?_
    exact k)
  obtain ⟨fs, hr, hrun, hended, hW, hsame⟩ := X2.leave (v := some (.ref b2)) (fun h => by rw [Bd.returns] at h; cases h)
  refine ⟨_, _, pre0 _ (S3 _ ?_), hrun, hended, _, _, rfl, ?_, ⟨_, rfl⟩, hW, hsame.mono (by decide) (by decide)⟩
  · jvm_step X2.here [X2.here.top, hx, (hb hby d18_6), X2.method', Bd.returns, Value.isRef, FieldType.isReference]
    first | (intro acts; rw [hr _ acts rfl rfl rfl]) | rw [hr _ _ rfl rfl rfl]
    exact Steps.refl _
  · show QrmNbf_1 Z  h0 n0 _ T2.heap _
    rw [e2]
    exact ⟨_, _, rfl, N1, sz_b2, K2, V2⟩
theorem d20_0 : decode jdk_52_method_4_code 0 = .ok (.getstatic 44, 3) := by decide +kernel
theorem d20_3 : decode jdk_52_method_4_code 3 = .ok (.ifCond .ne 25, 3) := by decide +kernel
theorem d20_28 : decode jdk_52_method_4_code 28 = .ok (.iload_n 1, 1) := by decide +kernel
theorem d20_29 : decode jdk_52_method_4_code 29 = .ok (.iconst 1, 1) := by decide +kernel
theorem d20_30 : decode jdk_52_method_4_code 30 = .ok (.ishl, 1) := by decide +kernel
theorem d20_31 : decode jdk_52_method_4_code 31 = .ok (.istore_n 1, 1) := by decide +kernel
theorem d20_32 : decode jdk_52_method_4_code 32 = .ok (.aload_n 0, 1) := by decide +kernel
theorem d20_33 : decode jdk_52_method_4_code 33 = .ok (.iload_n 1, 1) := by decide +kernel
theorem d20_34 : decode jdk_52_method_4_code 34 = .ok (.iinc 1 1, 3) := by decide +kernel
theorem d20_37 : decode jdk_52_method_4_code 37 = .ok (.iload_n 2, 1) := by decide +kernel
theorem d20_38 : decode jdk_52_method_4_code 38 = .ok (.getstatic 59, 3) := by decide +kernel
theorem d20_41 : decode jdk_52_method_4_code 41 = .ok (.ishr, 1) := by decide +kernel
theorem d20_42 : decode jdk_52_method_4_code 42 = .ok (.i2b, 1) := by decide +kernel
theorem d20_43 : decode jdk_52_method_4_code 43 = .ok (.bastore, 1) := by decide +kernel
theorem d20_44 : decode jdk_52_method_4_code 44 = .ok (.aload_n 0, 1) := by decide +kernel
theorem d20_45 : decode jdk_52_method_4_code 45 = .ok (.iload_n 1, 1) := by decide +kernel
theorem d20_46 : decode jdk_52_method_4_code 46 = .ok (.iload_n 2, 1) := by decide +kernel
theorem d20_47 : decode jdk_52_method_4_code 47 = .ok (.getstatic 63, 3) := by decide +kernel
theorem d20_50 : decode jdk_52_method_4_code 50 = .ok (.ishr, 1) := by decide +kernel
theorem d20_51 : decode jdk_52_method_4_code 51 = .ok (.i2b, 1) := by decide +kernel
theorem d20_52 : decode jdk_52_method_4_code 52 = .ok (.bastore, 1) := by decide +kernel
theorem d20_53 : decode jdk_52_method_4_code 53 = .ok (.return_, 1) := by decide +kernel
def QrmPut_1_0 (Z : State) (a0 : Addr) (ka : ClassId) (cc : Int32) (h0 : Heap) (n0 : Nat) (v : Option Value) (h : Heap) (L : List Loc) : Prop := v = none ∧ Fr n0 L ∧ Keep h0 h [a0] ∧ Arv Z h a0 ka .byte (2 : Int32) [(.int (own_lo cc)), (.int (own_hi cc))] (.int (0 : Int32))
set_option maxRecDepth 65536 in
set_option maxHeartbeats 40000000 in
theorem rmPut_1_0 (l : Launch) (Z : State) (av0 : Array Value) (hw : ∀ d ∈ tables_1, d.before av0 Z = true) (ws : List Jvm.Cond) (a0 : Addr) (ka : ClassId) (cc : Int32) (h0 : Heap) (n0 : Nat) (Z0 : n0 ≤ h0.size) (hA : Arv Z h0 a0 ka .byte (2 : Int32) [(.int (0 : Int32)), (.int (0 : Int32))] (.int (0 : Int32))) (hge : n0 ≤ a0) (sA : Sta Z h0 "java/lang/StringUTF16" "$assertionsDisabled" "Z" (.int (1 : Int32))) (sH : Sta Z h0 "java/lang/StringUTF16" "HI_BYTE_SHIFT" "I" (.int (0 : Int32))) (sL : Sta Z h0 "java/lang/StringUTF16" "LO_BYTE_SHIFT" "I" (.int (8 : Int32))) :
    own_Met l mN19 jdk_52_method_4_code 3 none ws ({ frames := 0, cells := 0, slots := 0, locals := 0 } : Room) #[(.ref a0), (.int 0), (.int cc)] Z h0 (QrmPut_1_0 Z a0 ka cc h0 n0) := by
  refine MetFree.of_bodySF (plainFor_of_name pn_StringUTF16) hisR ?_
  intro p e s m args below meth c s₁ Bd hml0 hP hK
  obtain ⟨rfl, hZ, hh⟩ := hP
  have hml : c.maxLocals = 3 := hml0
  obtain ⟨hx, hby, hown, hnm, X0, e0⟩ := own_start Bd hml0 hh
  have N0 := Fr.nil n0
  have pre0 : ∀ t, oS p e below s₁ (mkF m 0 #[rv a0, iv 0, iv cc] []) t → Steps p.tables e below (s₁.setTop (entryFrame m #[(.ref a0), (.int 0), (.int cc)] 3)) t := fun t k => castTop (by first | (simp [entryFrame, mkF, argsToLocals, Value.category]; done) | rfl) k
  obtain ⟨T1, X1, e1, st1⟩ := getS2 X0 hx hZ hown (host := "") (Or.inl (hw _ (own_w 91 rfl))) Via.refl e0 sA (g := (mkF m 0 #[rv a0, iv 0, iv cc] [])) rfl (hb hby d20_0)
  obtain ⟨T2, X2, e2, st2⟩ := getS2 X1 hx hZ hown (host := "") (Or.inl (hw _ (own_w 92 rfl))) Via.refl e1 sH (g := (mkF m 38 #[rv a0, iv 1, iv cc] [(.int cc), (.int 0), (.ref a0)])) rfl (hb hby d20_38)
  obtain ⟨cl3, Ar3, qk3, Sz3, Ng3, Hs3, Gs3⟩ := id hA
  have hin3 : ¬ ((0 : Int32) < 0 ∨ cl3.slots.size ≤ ((0 : Int32)).toNatClampNeg) := inb_of Sz3 ⟨by decide, by decide⟩
  obtain ⟨T4, h4, X4, e4, W4, st4⟩ := stB X2 hx hZ e2 Ar3 (j := (0 : Int32)) hin3 (g := (mkF m 43 #[rv a0, iv 1, iv cc] [(.int ((cc >>> ((0 : Int32) &&& 31))).toInt8.toInt32), (.int 0), (.ref a0)])) rfl rfl (hb hby d20_43)
  have N4 := Fr.snoc X4 N0 hge
  have Z4 : n0 ≤ h4.size := Nat.le_trans Z0 (Nat.le_of_eq W4.size.symm)
  have K4 : Keep h0 h4 [a0] := (Keep.refl h0 [a0]).wr W4 (Or.inl (List.mem_of_getElem? (i := 0) rfl))
  have V4 : Arv Z h4 a0 ka .byte (2 : Int32) [(.int (nar .byte ((cc >>> ((0 : Int32) &&& 31))).toInt8.toInt32)), (.int (0 : Int32))] (.int (0 : Int32)) := Arv.set Ar3 qk3 Sz3 Ng3 Hs3 Gs3 (fits_nar_byte _) W4 0 rfl (Nat.le_of_ble_eq_true rfl)
  have f5 := (sL.wr W4)
  obtain ⟨T6, X6, e6, st6⟩ := getS2 X4 hx hZ hown (host := "") (Or.inl (hw _ (own_w 93 rfl))) Via.refl e4 f5 (g := (mkF m 47 #[rv a0, iv 1, iv cc] [(.int cc), (.int 1), (.ref a0)])) rfl (hb hby d20_47)
  obtain ⟨cl7, Ar7, qk7, Sz7, Ng7, Hs7, Gs7⟩ := id V4
  have hin7 : ¬ ((1 : Int32) < 0 ∨ cl7.slots.size ≤ ((1 : Int32)).toNatClampNeg) := inb_of Sz7 ⟨by decide, by decide⟩
  obtain ⟨T8, h8, X8, e8, W8, st8⟩ := stB X6 hx hZ e6 Ar7 (j := (1 : Int32)) hin7 (g := (mkF m 52 #[rv a0, iv 1, iv cc] [(.int ((cc >>> ((8 : Int32) &&& 31))).toInt8.toInt32), (.int 1), (.ref a0)])) rfl rfl (hb hby d20_52)
  have N8 := Fr.snoc X8 N4 hge
  have Z8 : n0 ≤ h8.size := Nat.le_trans Z4 (Nat.le_of_eq W8.size.symm)
  have K8 : Keep h0 h8 [a0] := K4.wr W8 (Or.inl (List.mem_of_getElem? (i := 0) rfl))
  have V8 : Arv Z h8 a0 ka .byte (2 : Int32) [(.int (nar .byte ((cc >>> ((0 : Int32) &&& 31))).toInt8.toInt32)), (.int (nar .byte ((cc >>> ((8 : Int32) &&& 31))).toInt8.toInt32))] (.int (0 : Int32)) := Arv.set Ar7 qk7 Sz7 Ng7 Hs7 Gs7 (fits_nar_byte _) W8 1 rfl (Nat.le_of_ble_eq_true rfl)
  have S9 : ∀ t, oS p e below T8 (mkF m 53 #[rv a0, iv 1, iv cc] []) t → oS p e below s₁ (mkF m 0 #[rv a0, iv 0, iv cc] []) t := fun t k => id (by
    show oS p e below s₁ (mkF m 0 #[rv a0, iv 0, iv cc] []) _
    refine st1 _ ?_
    refine XS.ifYes X1.here hx rfl (pc0 := 3) (pc' := 28) rfl (hb hby d20_3) rfl (XT.i0_ne_t (by decide)) (by decide) (by decide) ?_
    refine XS.iloadN X1.here hx rfl (hb hby d20_28) rfl ?_
    refine XT.iconstV X1.here hx rfl (1 : Int32) (hb hby d20_29) (by decide) ?_
    refine XT.ishl X1.here hx rfl (hb hby d20_30) rfl ?_
    refine XS.istoreN X1.here hx rfl (hb hby d20_31) rfl (l' := #[rv a0, iv 0, iv cc]) rfl ?_
    refine XS.aloadN X1.here hx rfl (hb hby d20_32) rfl rfl ?_
    refine XS.iloadN X1.here hx rfl (hb hby d20_33) rfl ?_
    refine XT.iincV X1.here hx rfl (1 : Int32) (hb hby d20_34) (by decide) rfl (l' := #[rv a0, iv 1, iv cc]) rfl ?_
    refine XS.iloadN X1.here hx rfl (hb hby d20_37) rfl ?_
    refine st2 _ ?_
    refine XT.ishr X2.here hx rfl (hb hby d20_41) rfl ?_
    refine XT.i2b X2.here hx rfl (hb hby d20_42) rfl ?_
    refine st4 _ ?_
    refine XS.aloadN X4.here hx rfl (hb hby d20_44) rfl rfl ?_
    refine XS.iloadN X4.here hx rfl (hb hby d20_45) rfl ?_
    refine XS.iloadN X4.here hx rfl (hb hby d20_46) rfl ?_
    refine st6 _ ?_
    refine XT.ishr X6.here hx rfl (hb hby d20_50) rfl ?_
    refine XT.i2b X6.here hx rfl (hb hby d20_51) rfl ?_
    show oS p e below T6 (mkF m 52 #[rv a0, iv 1, iv cc] [(.int ((cc >>> ((8 : Int32) &&& 31))).toInt8.toInt32), (.int 1), (.ref a0)]) _
    refine st8 _ ?_
    exact k)
  obtain ⟨fs, hr, hrun, hended, hW, hsame⟩ := X8.leave (v := none) (fun _ => rfl)
  refine ⟨_, _, pre0 _ (S9 _ ?_), hrun, hended, _, _, rfl, ?_, ⟨_, rfl⟩, hW, hsame.mono (by decide) (by decide)⟩
  · exact X8.returnOut hx Bd.returns (hb hby d20_53) hr
  · show QrmPut_1_0 Z a0 ka cc h0 n0 _ T8.heap _
    rw [e8]
    exact ⟨rfl, N8, K8, V8⟩
theorem d17_0 : decode jdk_52_method_14_code 0 = .ok (.iload_n 2, 1) := by decide +kernel
theorem d17_1 : decode jdk_52_method_14_code 1 = .ok (.invokestatic 107, 3) := by decide +kernel
theorem d17_4 : decode jdk_52_method_14_code 4 = .ok (.astore_n 3, 1) := by decide +kernel
theorem d17_5 : decode jdk_52_method_14_code 5 = .ok (.iconst 0, 1) := by decide +kernel
theorem d17_6 : decode jdk_52_method_14_code 6 = .ok (.istore 4, 2) := by decide +kernel
theorem d17_8 : decode jdk_52_method_14_code 8 = .ok (.iload 4, 2) := by decide +kernel
theorem d17_10 : decode jdk_52_method_14_code 10 = .ok (.iload_n 2, 1) := by decide +kernel
theorem d17_11 : decode jdk_52_method_14_code 11 = .ok (.if_icmp .ge 21, 3) := by decide +kernel
theorem d17_14 : decode jdk_52_method_14_code 14 = .ok (.aload_n 3, 1) := by decide +kernel
theorem d17_15 : decode jdk_52_method_14_code 15 = .ok (.iload 4, 2) := by decide +kernel
theorem d17_17 : decode jdk_52_method_14_code 17 = .ok (.aload_n 0, 1) := by decide +kernel
theorem d17_18 : decode jdk_52_method_14_code 18 = .ok (.iload_n 1, 1) := by decide +kernel
theorem d17_19 : decode jdk_52_method_14_code 19 = .ok (.caload, 1) := by decide +kernel
theorem d17_20 : decode jdk_52_method_14_code 20 = .ok (.invokestatic 111, 3) := by decide +kernel
theorem d17_23 : decode jdk_52_method_14_code 23 = .ok (.iinc 1 1, 3) := by decide +kernel
theorem d17_26 : decode jdk_52_method_14_code 26 = .ok (.iinc 4 1, 3) := by decide +kernel
theorem d17_29 : decode jdk_52_method_14_code 29 = .ok (.goto (-21), 3) := by decide +kernel
theorem d17_32 : decode jdk_52_method_14_code 32 = .ok (.aload_n 3, 1) := by decide +kernel
theorem d17_33 : decode jdk_52_method_14_code 33 = .ok (.areturn, 1) := by decide +kernel
theorem pd__I_B : parseMethodDescriptor "(I)[B" = some ⟨[.int], some (.array .byte)⟩ := by decide +kernel
theorem pd__BII_V : parseMethodDescriptor "([BII)V" = some ⟨[(.array .byte), .int, .int], none⟩ := by decide +kernel
def QrmTb_1 (Z : State) (a0 : Addr) (ka : ClassId) (c0 : Int32) (h0 : Heap) (n0 : Nat) (v : Option Value) (h : Heap) (L : List Loc) : Prop := ∃ (b : Addr) (k : ClassId), v = some (.ref b) ∧ Fr n0 L ∧ h0.size ≤ b ∧ Keep h0 h [] ∧ Arv Z h b k .byte (2 : Int32) [(.int (own_lo c0)), (.int (own_hi c0))] (.int (0 : Int32))
set_option maxRecDepth 65536 in
set_option maxHeartbeats 40000000 in
theorem rmTb_1 (l : Launch) (Z : State) (av0 : Array Value) (hw : ∀ d ∈ tables_1, d.before av0 Z = true) (ws : List Jvm.Cond) (a0 : Addr) (ka : ClassId) (c0 : Int32) (h0 : Heap) (n0 : Nat) (Z0 : n0 ≤ h0.size) (hA : Arv Z h0 a0 ka .char (1 : Int32) [(.int c0)] (.int (0 : Int32))) (sA : Sta Z h0 "java/lang/StringUTF16" "$assertionsDisabled" "Z" (.int (1 : Int32))) (sH : Sta Z h0 "java/lang/StringUTF16" "HI_BYTE_SHIFT" "I" (.int (0 : Int32))) (sL : Sta Z h0 "java/lang/StringUTF16" "LO_BYTE_SHIFT" "I" (.int (8 : Int32))) :
    own_Met l mN20 jdk_52_method_14_code 5 (some (.array .byte)) ws ({ frames := 2, cells := 1, slots := 2, locals := 24 } : Room) #[(.ref a0), (.int 0), (.int 1)] Z h0 (QrmTb_1 Z a0 ka c0 h0 n0) := by
  refine MetFree.of_bodySF (plainFor_of_name pn_StringUTF16) hisR ?_
  intro p e s m args below meth c s₁ Bd hml0 hP hK
  obtain ⟨rfl, hZ, hh⟩ := hP
  have hml : c.maxLocals = 5 := hml0
  obtain ⟨hx, hby, hown, hnm, X0, e0⟩ := own_start Bd hml0 hh
  have N0 := Fr.nil n0
  have pre0 : ∀ t, oS p e below s₁ (mkF m 0 #[rv a0, iv 0, iv 1, .unset, .unset] []) t → Steps p.tables e below (s₁.setTop (entryFrame m #[(.ref a0), (.int 0), (.int 1)] 5)) t := fun t k => castTop (by first | (simp [entryFrame, mkF, argsToLocals, Value.category]; done) | rfl) k
  obtain ⟨_, T1, Lc1, X1, hQ1, st1⟩ := own_callS (W := 0) (y := mN18) X0 hx hZ hown (hw _ (own_w 81 rfl)) (hw _ (own_w 82 rfl)) (hw _ (own_w 40 rfl)) (hw _ (own_w 83 rfl)) (by decide) (rmNbf_1 l Z av0 hw []  h0 n0 Z0 ) (by decide) (by decide) (g := (mkF m 1 #[rv a0, iv 0, iv 1, .unset, .unset] [(.int 1)])) rfl (by rw [hml]; rfl) (argsL := [(.int 1)]) (rest := []) (lenOf pd__I_B rfl) rfl (hb hby d17_1) rfl e0 (by decide : 0 + 1 ≤ _) (by decide : 0 + 2 ≤ _)
  obtain ⟨b1, kb1, rfl, N1q, gb1, K1, V1⟩ := hQ1
  have N1 := Fr.app N0 N1q
  have e1 : T1.heap = T1.heap := rfl
  have ne_a0_b1 : a0 ≠ b1 := Nat.ne_of_lt (Nat.lt_of_lt_of_le hA.lt gb1)
  have ge_b1 : n0 ≤ b1 := Nat.le_trans Z0 gb1
  have sz_b1 : h0.size ≤ b1 := gb1
  have Zk1 : n0 ≤ T1.heap.size := Nat.le_trans Z0 K1.1
  have Kk1 : Keep h0 T1.heap [] := (Keep.refl h0 []).trans K1 all0
  have f2 := (hA.keep K1 nin0)
  obtain ⟨cl3, Ar3, qk3, Sz3, Ng3, Hs3, Gs3⟩ := id f2
  have hin3 : ¬ ((0 : Int32) < 0 ∨ cl3.slots.size ≤ ((0 : Int32)).toNatClampNeg) := inb_of Sz3 ⟨by decide, by decide⟩
  have hat3 : cl3.slots[((0 : Int32)).toNatClampNeg]? = some (.int c0) := Hs3.at hin3 rfl
  have f4 := (own_stak sA K1 all0)
  have f5 := (own_stak sH K1 all0)
  have f6 := (own_stak sL K1 all0)
  obtain ⟨_, T7, Lc7, X7, hQ7, st7⟩ := own_callS (W := 0) (y := mN19) X1 hx hZ hown (hw _ (own_w 88 rfl)) (hw _ (own_w 89 rfl)) (hw _ (own_w 40 rfl)) (hw _ (own_w 90 rfl)) (by decide) (rmPut_1_0 l Z av0 hw [] b1 kb1 c0  T1.heap n0 Zk1 V1 ge_b1 f4 f5 f6) (by decide) (by decide) (g := (mkF m 20 #[rv a0, iv 0, iv 1, rv b1, iv 0] [(.int c0), (.int 0), (.ref b1)])) rfl (by rw [hml]; rfl) (argsL := [(.ref b1), (.int 0), (.int c0)]) (rest := []) (lenOf pd__BII_V rfl) rfl (hb hby d17_20) rfl e1 (by decide : 1 + 0 ≤ _) (by decide : 2 + 0 ≤ _)
  obtain ⟨rfl, N7q, K7, V7⟩ := hQ7
  have N7 := Fr.app N1 N7q
  have e7 : T7.heap = T7.heap := rfl
  have Zk7 : n0 ≤ T7.heap.size := Nat.le_trans Zk1 K7.1
  have Kk7 : Keep h0 T7.heap [] := Kk1.trans K7 (allS (Or.inr sz_b1) all0)
  have S8 : ∀ t, oS p e below T7 (mkF m 33 #[rv a0, iv 1, iv 1, rv b1, iv 1] [(.ref b1)]) t → oS p e below s₁ (mkF m 0 #[rv a0, iv 0, iv 1, .unset, .unset] []) t := fun t k => id (by
    show oS p e below s₁ (mkF m 0 #[rv a0, iv 0, iv 1, .unset, .unset] []) _
    refine XS.iloadN X0.here hx rfl (hb hby d17_0) rfl ?_
    refine st1 _ ?_
    refine XS.astoreN X1.here hx rfl (hb hby d17_4) rfl rfl (l' := #[rv a0, iv 0, iv 1, rv b1, .unset]) rfl ?_
    refine XT.iconstV X1.here hx rfl (0 : Int32) (hb hby d17_5) (by decide) ?_
    refine XS.istore X1.here hx rfl (hb hby d17_6) rfl (l' := #[rv a0, iv 0, iv 1, rv b1, iv 0]) rfl ?_
    refine XS.iload X1.here hx rfl (hb hby d17_8) rfl ?_
    refine XS.iloadN X1.here hx rfl (hb hby d17_10) rfl ?_
    refine XS.icmpNo X1.here hx rfl (hb hby d17_11) rfl (XT.ii_ge_f (by decide)) ?_
    refine XS.aloadN X1.here hx rfl (hb hby d17_14) rfl rfl ?_
    refine XS.iload X1.here hx rfl (hb hby d17_15) rfl ?_
    refine XS.aloadN X1.here hx rfl (hb hby d17_17) rfl rfl ?_
    refine XS.iloadN X1.here hx rfl (hb hby d17_18) rfl ?_
    refine X1.caload hx (j := (0 : Int32)) (v := (.int c0)) (by rw [e1]; exact Ar3.1) (State.isArrayOf_alike hZ.alike Ar3.2.1) Ar3.2.2 hin3 hat3 (g := (mkF m 19 #[rv a0, iv 0, iv 1, rv b1, iv 0] [(.int 0), (.ref a0), (.int 0), (.ref b1)])) rfl rfl (hb hby d17_19) _ ?_
    refine st7 _ ?_
    refine XT.iincV X7.here hx rfl (1 : Int32) (hb hby d17_23) (by decide) rfl (l' := #[rv a0, iv 1, iv 1, rv b1, iv 0]) rfl ?_
    refine XT.iincV X7.here hx rfl (1 : Int32) (hb hby d17_26) (by decide) rfl (l' := #[rv a0, iv 1, iv 1, rv b1, iv 1]) rfl ?_
    refine XS.goto X7.here hx rfl (pc0 := 29) (pc' := 8) rfl (hb hby d17_29) (by decide) (by decide) ?_
    refine XS.iload X7.here hx rfl (hb hby d17_8) rfl ?_
    refine XS.iloadN X7.here hx rfl (hb hby d17_10) rfl ?_
    refine XS.icmpYes X7.here hx rfl (pc0 := 11) (pc' := 32) rfl (hb hby d17_11) rfl (XT.ii_ge_t (by decide)) (by decide) (by decide) ?_
    show oS p e below T7 (mkF m 32 #[rv a0, iv 1, iv 1, rv b1, iv 1] []) _
    refine XS.aloadN X7.here hx rfl (hb hby d17_32) rfl rfl ?_
    exact k)
  obtain ⟨fs, hr, hrun, hended, hW, hsame⟩ := X7.leave (v := some (.ref b1)) (fun h => by rw [Bd.returns] at h; cases h)
  refine ⟨_, _, pre0 _ (S8 _ ?_), hrun, hended, _, _, rfl, ?_, ⟨_, rfl⟩, hW, hsame.mono (by decide) (by decide)⟩
  · jvm_step X7.here [X7.here.top, hx, (hb hby d17_33), X7.method', Bd.returns, Value.isRef, FieldType.isReference]
    first | (intro acts; rw [hr _ acts rfl rfl rfl]) | rw [hr _ _ rfl rfl rfl]
    exact Steps.refl _
  · show QrmTb_1 Z a0 ka c0 h0 n0 _ T7.heap _
    rw [e7]
    exact ⟨_, _, rfl, N7, sz_b1, Kk7, V7⟩
theorem d7_0 : decode jdk_52_method_16_code 0 = .ok (.iload_n 2, 1) := by decide +kernel
theorem d7_1 : decode jdk_52_method_16_code 1 = .ok (.newarray .byte, 2) := by decide +kernel
theorem d7_3 : decode jdk_52_method_16_code 3 = .ok (.astore_n 3, 1) := by decide +kernel
theorem d7_4 : decode jdk_52_method_16_code 4 = .ok (.aload_n 0, 1) := by decide +kernel
theorem d7_5 : decode jdk_52_method_16_code 5 = .ok (.iload_n 1, 1) := by decide +kernel
theorem d7_6 : decode jdk_52_method_16_code 6 = .ok (.aload_n 3, 1) := by decide +kernel
theorem d7_7 : decode jdk_52_method_16_code 7 = .ok (.iconst 0, 1) := by decide +kernel
theorem d7_8 : decode jdk_52_method_16_code 8 = .ok (.iload_n 2, 1) := by decide +kernel
theorem d7_9 : decode jdk_52_method_16_code 9 = .ok (.invokestatic 115, 3) := by decide +kernel
theorem d7_12 : decode jdk_52_method_16_code 12 = .ok (.istore 4, 2) := by decide +kernel
theorem d7_14 : decode jdk_52_method_16_code 14 = .ok (.iload 4, 2) := by decide +kernel
theorem d7_16 : decode jdk_52_method_16_code 16 = .ok (.iload_n 2, 1) := by decide +kernel
theorem d7_17 : decode jdk_52_method_16_code 17 = .ok (.if_icmp .eq 40, 3) := by decide +kernel
theorem d7_20 : decode jdk_52_method_16_code 20 = .ok (.aload_n 0, 1) := by decide +kernel
theorem d7_21 : decode jdk_52_method_16_code 21 = .ok (.iload_n 1, 1) := by decide +kernel
theorem d7_22 : decode jdk_52_method_16_code 22 = .ok (.iload_n 2, 1) := by decide +kernel
theorem d7_23 : decode jdk_52_method_16_code 23 = .ok (.invokestatic 119, 3) := by decide +kernel
theorem d7_26 : decode jdk_52_method_16_code 26 = .ok (.astore 5, 2) := by decide +kernel
theorem d7_28 : decode jdk_52_method_16_code 28 = .ok (.aload 5, 2) := by decide +kernel
theorem d7_30 : decode jdk_52_method_16_code 30 = .ok (.iload 4, 2) := by decide +kernel
theorem d7_32 : decode jdk_52_method_16_code 32 = .ok (.invokestatic 71, 3) := by decide +kernel
theorem d7_35 : decode jdk_52_method_16_code 35 = .ok (.sipush 255, 3) := by decide +kernel
theorem d7_38 : decode jdk_52_method_16_code 38 = .ok (.if_icmp .gt 16, 3) := by decide +kernel
theorem d7_54 : decode jdk_52_method_16_code 54 = .ok (.aload 5, 2) := by decide +kernel
theorem d7_56 : decode jdk_52_method_16_code 56 = .ok (.areturn, 1) := by decide +kernel
theorem pd__CI_BII_I : parseMethodDescriptor "([CI[BII)I" = some ⟨[(.array .char), .int, (.array .byte), .int, .int], some .int⟩ := by decide +kernel
theorem pd__CII_B : parseMethodDescriptor "([CII)[B" = some ⟨[(.array .char), .int, .int], some (.array .byte)⟩ := by decide +kernel
def QrmCp3_1_0 (Z : State) (a0 : Addr) (ka : ClassId) (c0 : Int32) (h0 : Heap) (n0 : Nat) (v : Option Value) (h : Heap) (L : List Loc) : Prop := ∃ (b : Addr) (k : ClassId), v = some (.ref b) ∧ Fr n0 L ∧ h0.size ≤ b ∧ Keep h0 h [] ∧ Arv Z h b k .byte (2 : Int32) [(.int (own_lo c0)), (.int (own_hi c0))] (.int (0 : Int32))
set_option maxRecDepth 65536 in
set_option maxHeartbeats 40000000 in
theorem rmCp3_1_0 (l : Launch) (Z : State) (av0 : Array Value) (hw : ∀ d ∈ tables_1, d.before av0 Z = true) (ws : List Jvm.Cond) (a0 : Addr) (ka : ClassId) (c0 : Int32) (h0 : Heap) (n0 : Nat) (Z0 : n0 ≤ h0.size) (hA : Arv Z h0 a0 ka .char (1 : Int32) [(.int c0)] (.int (0 : Int32))) (hbg : (255 : Int32) < c0) (hg : 0 ≤ c0.toInt ∧ c0.toInt < 65536) (sA : Sta Z h0 "java/lang/StringUTF16" "$assertionsDisabled" "Z" (.int (1 : Int32))) (sH : Sta Z h0 "java/lang/StringUTF16" "HI_BYTE_SHIFT" "I" (.int (0 : Int32))) (sL : Sta Z h0 "java/lang/StringUTF16" "LO_BYTE_SHIFT" "I" (.int (8 : Int32))) :
    own_Met l mN21 jdk_52_method_16_code 6 (some (.array .byte)) ws ({ frames := 3, cells := 2, slots := 3, locals := 40 } : Room) #[(.ref a0), (.int 0), (.int 1)] Z h0 (QrmCp3_1_0 Z a0 ka c0 h0 n0) := by
  refine MetFree.of_bodySF (plainFor_of_name pn_StringUTF16) hisR ?_
  intro p e s m args below meth c s₁ Bd hml0 hP hK
  obtain ⟨rfl, hZ, hh⟩ := hP
  have hml : c.maxLocals = 6 := hml0
  obtain ⟨hx, hby, hown, hnm, X0, e0⟩ := own_start Bd hml0 hh
  have N0 := Fr.nil n0
  have pre0 : ∀ t, oS p e below s₁ (mkF m 0 #[rv a0, iv 0, iv 1, .unset, .unset, .unset] []) t → Steps p.tables e below (s₁.setTop (entryFrame m #[(.ref a0), (.int 0), (.int 1)] 6)) t := fun t k => castTop (by first | (simp [entryFrame, mkF, argsToLocals, Value.category]; done) | rfl) k
  obtain ⟨T1, h1, k1, X1, e1, E1, A1, st1⟩ := newP X0 hx hZ (hw _ (own_w 16 rfl)) e0 (g := (mkF m 1 #[rv a0, iv 0, iv 1, .unset, .unset, .unset] [(.int 1)])) rfl (hb hby d7_1) rfl (by decide) (cap := 1) (by decide) (by decide) (by decide) (by decide)
  obtain ⟨b1, g1⟩ : ∃ z, z = h0.size := ⟨_, rfl⟩
  rw [← g1] at A1 st1
  have ne_a0_b1 : a0 ≠ b1 := Nat.ne_of_lt (Nat.lt_of_lt_of_le hA.lt (Nat.le_of_eq g1.symm))
  have ge_b1 : n0 ≤ b1 := Nat.le_trans Z0 (Nat.le_of_eq g1.symm)
  have sz_b1 : h0.size ≤ b1 := Nat.le_of_eq g1.symm
  have Z1 : n0 ≤ h1.size := Nat.le_trans Z0 E1.1
  have K1 : Keep h0 h1 [] := (Keep.refl h0 []).ext E1
  have V1 : Arv Z h1 b1 k1 .byte (1 : Int32) [(.int (0 : Int32))] (.int (0 : Int32)) := (Arv.new A1 (by decide)).pad (pad_rep [] (.int (0 : Int32)) 1)
  have f2 := (hA.ext E1)
  obtain ⟨_, T3, Lc3, X3, hQ3, st3⟩ := own_callS (W := 0) (y := mN16) X1 hx hZ hown (hw _ (own_w 42 rfl)) (hw _ (own_w 43 rfl)) (hw _ (own_w 40 rfl)) (hw _ (own_w 44 rfl)) (by decide) (rmCp5_1_0 l Z av0 hw [] a0 b1 ka k1 c0 h1 n0 Z1 f2 V1 ne_a0_b1 ge_b1 hbg) (by decide) (by decide) (g := (mkF m 9 #[rv a0, iv 0, iv 1, rv b1, .unset, .unset] [(.int 1), (.int 0), (.ref b1), (.int 0), (.ref a0)])) rfl (by rw [hml]; rfl) (argsL := [(.ref a0), (.int 0), (.ref b1), (.int 0), (.int 1)]) (rest := []) (lenOf pd__CI_BII_I rfl) rfl (hb hby d7_9) rfl e1 (by decide : 1 + 0 ≤ _) (by decide : 1 + 0 ≤ _)
  obtain ⟨rfl, N3q, K3, V3⟩ := hQ3
  have N3 := Fr.app N0 N3q
  have e3 : T3.heap = T3.heap := rfl
  have Zk3 : n0 ≤ T3.heap.size := Nat.le_trans Z1 K3.1
  have Kk3 : Keep h0 T3.heap [] := K1.trans K3 (allS (Or.inr sz_b1) all0)
  have f4 := (f2.keep K3 (ninS ne_a0_b1 nin0))
  have f5 := (own_stak (sA.ext E1) K3 (allS (own_arns V1) all0))
  have f6 := (own_stak (sH.ext E1) K3 (allS (own_arns V1) all0))
  have f7 := (own_stak (sL.ext E1) K3 (allS (own_arns V1) all0))
  obtain ⟨_, T8, Lc8, X8, hQ8, st8⟩ := own_callS (W := 0) (y := mN20) X3 hx hZ hown (hw _ (own_w 78 rfl)) (hw _ (own_w 79 rfl)) (hw _ (own_w 40 rfl)) (hw _ (own_w 80 rfl)) (by decide) (rmTb_1 l Z av0 hw [] a0 ka c0 T3.heap n0 Zk3 f4 f5 f6 f7) (by decide) (by decide) (g := (mkF m 23 #[rv a0, iv 0, iv 1, rv b1, iv 0, .unset] [(.int 1), (.int 0), (.ref a0)])) rfl (by rw [hml]; rfl) (argsL := [(.ref a0), (.int 0), (.int 1)]) (rest := []) (lenOf pd__CII_B rfl) rfl (hb hby d7_23) rfl e3 (by decide : 1 + 1 ≤ _) (by decide : 1 + 2 ≤ _)
  obtain ⟨b8, kb8, rfl, N8q, gb8, K8, V8⟩ := hQ8
  have N8 := Fr.app N3 N8q
  have e8 : T8.heap = T8.heap := rfl
  have ne_a0_b8 : a0 ≠ b8 := Nat.ne_of_lt (Nat.lt_of_lt_of_le f4.lt gb8)
  have ne_b1_b8 : b1 ≠ b8 := Nat.ne_of_lt (Nat.lt_of_lt_of_le V3.lt gb8)
  have ge_b8 : n0 ≤ b8 := Nat.le_trans Zk3 gb8
  have sz_b8 : h0.size ≤ b8 := Nat.le_trans Kk3.1 gb8
  have Zk8 : n0 ≤ T8.heap.size := Nat.le_trans Zk3 K8.1
  have Kk8 : Keep h0 T8.heap [] := Kk3.trans K8 all0
  have f9 := (own_stak f5 K8 all0)
  have f10 := (own_stak f6 K8 all0)
  have f11 := (own_stak f7 K8 all0)
  obtain ⟨_, T12, Lc12, X12, hQ12, st12⟩ := own_callS (W := 0) (y := mN12) X8 hx hZ hown (hw _ (own_w 94 rfl)) (hw _ (own_w 95 rfl)) (hw _ (own_w 40 rfl)) (hw _ (own_w 96 rfl)) (by decide) (rmGc l Z av0 hw [] b8 kb8 (2 : Int32) [(.int (own_lo c0)), (.int (own_hi c0))] (0 : Int32) (own_lo c0) (own_hi c0) T8.heap n0 Zk8 V8 f9 f10 f11 (by decide) (by decide) rfl rfl) (by decide) (by decide) (g := (mkF m 32 #[rv a0, iv 0, iv 1, rv b1, iv 0, rv b8] [(.int 0), (.ref b8)])) rfl (by rw [hml]; rfl) (argsL := [(.ref b8), (.int 0)]) (rest := []) (lenOf pd__BI_C rfl) rfl (hb hby d7_32) rfl e8 (by decide : 2 + 0 ≤ _) (by decide : 3 + 0 ≤ _)
  obtain ⟨rfl, N12q, hh12⟩ := hQ12
  have N12 := Fr.app N8 N12q
  have e12 : T12.heap = T8.heap := hh12
  have S13 : ∀ t, oS p e below T12 (mkF m 56 #[rv a0, iv 0, iv 1, rv b1, iv 0, rv b8] [(.ref b8)]) t → oS p e below s₁ (mkF m 0 #[rv a0, iv 0, iv 1, .unset, .unset, .unset] []) t := fun t k => id (by
    show oS p e below s₁ (mkF m 0 #[rv a0, iv 0, iv 1, .unset, .unset, .unset] []) _
    refine XS.iloadN X0.here hx rfl (hb hby d7_0) rfl ?_
    refine st1 _ ?_
    refine XS.astoreN X1.here hx rfl (hb hby d7_3) rfl rfl (l' := #[rv a0, iv 0, iv 1, rv b1, .unset, .unset]) rfl ?_
    refine XS.aloadN X1.here hx rfl (hb hby d7_4) rfl rfl ?_
    refine XS.iloadN X1.here hx rfl (hb hby d7_5) rfl ?_
    refine XS.aloadN X1.here hx rfl (hb hby d7_6) rfl rfl ?_
    refine XT.iconstV X1.here hx rfl (0 : Int32) (hb hby d7_7) (by decide) ?_
    refine XS.iloadN X1.here hx rfl (hb hby d7_8) rfl ?_
    refine st3 _ ?_
    refine XS.istore X3.here hx rfl (hb hby d7_12) rfl (l' := #[rv a0, iv 0, iv 1, rv b1, iv 0, .unset]) rfl ?_
    refine XS.iload X3.here hx rfl (hb hby d7_14) rfl ?_
    refine XS.iloadN X3.here hx rfl (hb hby d7_16) rfl ?_
    refine XS.icmpNo X3.here hx rfl (hb hby d7_17) rfl (XT.ii_eq_f (by decide)) ?_
    refine XS.aloadN X3.here hx rfl (hb hby d7_20) rfl rfl ?_
    refine XS.iloadN X3.here hx rfl (hb hby d7_21) rfl ?_
    refine XS.iloadN X3.here hx rfl (hb hby d7_22) rfl ?_
    refine st8 _ ?_
    refine XS.astore X8.here hx rfl (hb hby d7_26) rfl rfl (l' := #[rv a0, iv 0, iv 1, rv b1, iv 0, rv b8]) rfl ?_
    refine XS.aload X8.here hx rfl (hb hby d7_28) rfl rfl ?_
    refine XS.iload X8.here hx rfl (hb hby d7_30) rfl ?_
    show oS p e below T8 (mkF m 32 #[rv a0, iv 0, iv 1, rv b1, iv 0, rv b8] [(.int 0), (.ref b8)]) _
    refine st12 _ ?_
    refine XT.sipushV X12.here hx rfl (255 : Int32) (hb hby d7_35) (by decide) ?_
    refine XS.icmpYes X12.here hx rfl (pc0 := 38) (pc' := 54) rfl (hb hby d7_38) rfl (XT.ii_gt_t (by rw [own_gcv c0 hg.1 hg.2]; exact hbg)) (by decide) (by decide) ?_
    refine XS.aload X12.here hx rfl (hb hby d7_54) rfl rfl ?_
    exact k)
  obtain ⟨fs, hr, hrun, hended, hW, hsame⟩ := X12.leave (v := some (.ref b8)) (fun h => by rw [Bd.returns] at h; cases h)
  refine ⟨_, _, pre0 _ (S13 _ ?_), hrun, hended, _, _, rfl, ?_, ⟨_, rfl⟩, hW, hsame.mono (by decide) (by decide)⟩
  · jvm_step X12.here [X12.here.top, hx, (hb hby d7_56), X12.method', Bd.returns, Value.isRef, FieldType.isReference]
    first | (intro acts; rw [hr _ acts rfl rfl rfl]) | rw [hr _ _ rfl rfl rfl]
    exact Steps.refl _
  · show QrmCp3_1_0 Z a0 ka c0 h0 n0 _ T12.heap _
    rw [e12]
    exact ⟨_, _, rfl, N12, sz_b8, Kk8, V8⟩
theorem d8_26 : decode jdk_52_method_21_code 26 = .ok (.aload_n 2, 1) := by decide +kernel
theorem d8_27 : decode jdk_52_method_21_code 27 = .ok (.iload_n 3, 1) := by decide +kernel
theorem d8_28 : decode jdk_52_method_21_code 28 = .ok (.iload 6, 2) := by decide +kernel
theorem d8_30 : decode jdk_52_method_21_code 30 = .ok (.i2b, 1) := by decide +kernel
theorem d8_31 : decode jdk_52_method_21_code 31 = .ok (.bastore, 1) := by decide +kernel
theorem d8_32 : decode jdk_52_method_21_code 32 = .ok (.iinc 1 1, 3) := by decide +kernel
theorem d8_35 : decode jdk_52_method_21_code 35 = .ok (.iinc 3 1, 3) := by decide +kernel
theorem d8_38 : decode jdk_52_method_21_code 38 = .ok (.iinc 5 1, 3) := by decide +kernel
theorem d8_41 : decode jdk_52_method_21_code 41 = .ok (.goto (-38), 3) := by decide +kernel
theorem d8_44 : decode jdk_52_method_21_code 44 = .ok (.iload 4, 2) := by decide +kernel
theorem d8_46 : decode jdk_52_method_21_code 46 = .ok (.ireturn, 1) := by decide +kernel
def QrmCp5_1_1 (Z : State) (a0 : Addr) (a2 : Addr) (ka : ClassId) (kb : ClassId) (c0 : Int32) (h0 : Heap) (n0 : Nat) (v : Option Value) (h : Heap) (L : List Loc) : Prop := v = some (.int (1 : Int32)) ∧ Fr n0 L ∧ Keep h0 h [a2] ∧ Arv Z h a2 kb .byte (1 : Int32) [(.int (own_b c0))] (.int (0 : Int32))
set_option maxRecDepth 65536 in
set_option maxHeartbeats 40000000 in
theorem rmCp5_1_1 (l : Launch) (Z : State) (av0 : Array Value) (hw : ∀ d ∈ tables_1, d.before av0 Z = true) (ws : List Jvm.Cond) (a0 : Addr) (a2 : Addr) (ka : ClassId) (kb : ClassId) (c0 : Int32) (h0 : Heap) (n0 : Nat) (Z0 : n0 ≤ h0.size) (hA : Arv Z h0 a0 ka .char (1 : Int32) [(.int c0)] (.int (0 : Int32))) (hB : Arv Z h0 a2 kb .byte (1 : Int32) [(.int (0 : Int32))] (.int (0 : Int32))) (hne : a0 ≠ a2) (hge : n0 ≤ a2) (hc0 : ¬ (255 : Int32) < c0) :
    own_Met l mN16 jdk_52_method_21_code 7 (some .int) ws ({ frames := 0, cells := 0, slots := 0, locals := 0 } : Room) #[(.ref a0), (.int 0), (.ref a2), (.int 0), (.int 1)] Z h0 (QrmCp5_1_1 Z a0 a2 ka kb c0 h0 n0) := by
  refine MetFree.of_bodySF (plainFor_of_name pn_StringUTF16) hisR ?_
  intro p e s m args below meth c s₁ Bd hml0 hP hK
  obtain ⟨rfl, hZ, hh⟩ := hP
  have hml : c.maxLocals = 7 := hml0
  obtain ⟨hx, hby, hown, hnm, X0, e0⟩ := own_start Bd hml0 hh
  have N0 := Fr.nil n0
  have pre0 : ∀ t, oS p e below s₁ (mkF m 0 #[rv a0, iv 0, rv a2, iv 0, iv 1, .unset, .unset] []) t → Steps p.tables e below (s₁.setTop (entryFrame m #[(.ref a0), (.int 0), (.ref a2), (.int 0), (.int 1)] 7)) t := fun t k => castTop (by first | (simp [entryFrame, mkF, argsToLocals, Value.category]; done) | rfl) k
  obtain ⟨cl1, Ar1, qk1, Sz1, Ng1, Hs1, Gs1⟩ := id hA
  have hin1 : ¬ ((0 : Int32) < 0 ∨ cl1.slots.size ≤ ((0 : Int32)).toNatClampNeg) := inb_of Sz1 ⟨by decide, by decide⟩
  have hat1 : cl1.slots[((0 : Int32)).toNatClampNeg]? = some (.int c0) := Hs1.at hin1 rfl
  obtain ⟨cl2, Ar2, qk2, Sz2, Ng2, Hs2, Gs2⟩ := id hB
  have hin2 : ¬ ((0 : Int32) < 0 ∨ cl2.slots.size ≤ ((0 : Int32)).toNatClampNeg) := inb_of Sz2 ⟨by decide, by decide⟩
  obtain ⟨T3, h3, X3, e3, W3, st3⟩ := stB X0 hx hZ e0 Ar2 (j := (0 : Int32)) hin2 (g := (mkF m 31 #[rv a0, iv 0, rv a2, iv 0, iv 1, iv 0, iv c0] [(.int (c0).toInt8.toInt32), (.int 0), (.ref a2)])) rfl rfl (hb hby d8_31)
  have N3 := Fr.snoc X3 N0 hge
  have Z3 : n0 ≤ h3.size := Nat.le_trans Z0 (Nat.le_of_eq W3.size.symm)
  have K3 : Keep h0 h3 [a2] := (Keep.refl h0 [a2]).wr W3 (Or.inl (List.mem_of_getElem? (i := 0) rfl))
  have V3 : Arv Z h3 a2 kb .byte (1 : Int32) [(.int (nar .byte (c0).toInt8.toInt32))] (.int (0 : Int32)) := Arv.set Ar2 qk2 Sz2 Ng2 Hs2 Gs2 (fits_nar_byte _) W3 0 rfl (Nat.le_of_ble_eq_true rfl)
  have S4 : ∀ t, oS p e below T3 (mkF m 46 #[rv a0, iv 1, rv a2, iv 1, iv 1, iv 1, iv c0] [(.int 1)]) t → oS p e below s₁ (mkF m 0 #[rv a0, iv 0, rv a2, iv 0, iv 1, .unset, .unset] []) t := fun t k => id (by
    show oS p e below s₁ (mkF m 0 #[rv a0, iv 0, rv a2, iv 0, iv 1, .unset, .unset] []) _
    refine XT.iconstV X0.here hx rfl (0 : Int32) (hb hby d8_0) (by decide) ?_
    refine XS.istore X0.here hx rfl (hb hby d8_1) rfl (l' := #[rv a0, iv 0, rv a2, iv 0, iv 1, iv 0, .unset]) rfl ?_
    refine XS.iload X0.here hx rfl (hb hby d8_3) rfl ?_
    refine XS.iload X0.here hx rfl (hb hby d8_5) rfl ?_
    refine XS.icmpNo X0.here hx rfl (hb hby d8_7) rfl (XT.ii_ge_f (by decide)) ?_
    refine XS.aloadN X0.here hx rfl (hb hby d8_10) rfl rfl ?_
    refine XS.iloadN X0.here hx rfl (hb hby d8_11) rfl ?_
    refine X0.caload hx (j := (0 : Int32)) (v := (.int c0)) (by rw [e0]; exact Ar1.1) (State.isArrayOf_alike hZ.alike Ar1.2.1) Ar1.2.2 hin1 hat1 (g := (mkF m 12 #[rv a0, iv 0, rv a2, iv 0, iv 1, iv 0, .unset] [(.int 0), (.ref a0)])) rfl rfl (hb hby d8_12) _ ?_
    refine XS.istore X0.here hx rfl (hb hby d8_13) rfl (l' := #[rv a0, iv 0, rv a2, iv 0, iv 1, iv 0, iv c0]) rfl ?_
    refine XS.iload X0.here hx rfl (hb hby d8_15) rfl ?_
    refine XT.sipushV X0.here hx rfl (255 : Int32) (hb hby d8_17) (by decide) ?_
    refine XS.icmpYes X0.here hx rfl (pc0 := 20) (pc' := 26) rfl (hb hby d8_20) rfl (XT.ii_le_t hc0) (by decide) (by decide) ?_
    refine XS.aloadN X0.here hx rfl (hb hby d8_26) rfl rfl ?_
    refine XS.iloadN X0.here hx rfl (hb hby d8_27) rfl ?_
    refine XS.iload X0.here hx rfl (hb hby d8_28) rfl ?_
    refine XT.i2b X0.here hx rfl (hb hby d8_30) rfl ?_
    refine st3 _ ?_
    refine XT.iincV X3.here hx rfl (1 : Int32) (hb hby d8_32) (by decide) rfl (l' := #[rv a0, iv 1, rv a2, iv 0, iv 1, iv 0, iv c0]) rfl ?_
    refine XT.iincV X3.here hx rfl (1 : Int32) (hb hby d8_35) (by decide) rfl (l' := #[rv a0, iv 1, rv a2, iv 1, iv 1, iv 0, iv c0]) rfl ?_
    refine XT.iincV X3.here hx rfl (1 : Int32) (hb hby d8_38) (by decide) rfl (l' := #[rv a0, iv 1, rv a2, iv 1, iv 1, iv 1, iv c0]) rfl ?_
    show oS p e below T3 (mkF m 41 #[rv a0, iv 1, rv a2, iv 1, iv 1, iv 1, iv c0] []) _
    refine XS.goto X3.here hx rfl (pc0 := 41) (pc' := 3) rfl (hb hby d8_41) (by decide) (by decide) ?_
    refine XS.iload X3.here hx rfl (hb hby d8_3) rfl ?_
    refine XS.iload X3.here hx rfl (hb hby d8_5) rfl ?_
    refine XS.icmpYes X3.here hx rfl (pc0 := 7) (pc' := 44) rfl (hb hby d8_7) rfl (XT.ii_ge_t (by decide)) (by decide) (by decide) ?_
    refine XS.iload X3.here hx rfl (hb hby d8_44) rfl ?_
    exact k)
  obtain ⟨fs, hr, hrun, hended, hW, hsame⟩ := X3.leave (v := some (.int 1)) (fun h => by rw [Bd.returns] at h; cases h)
  refine ⟨_, _, pre0 _ (S4 _ ?_), hrun, hended, _, _, rfl, ?_, ⟨_, rfl⟩, hW, hsame.mono (by decide) (by decide)⟩
  · exact retI X3 hx Bd.returns (hb hby d8_46) hr
  · show QrmCp5_1_1 Z a0 a2 ka kb c0 h0 n0 _ T3.heap _
    rw [e3]
    exact ⟨congrArg (fun z => some (Value.int z)) (by decide), N3, K3, V3⟩
theorem d7_57 : decode jdk_52_method_16_code 57 = .ok (.aload_n 3, 1) := by decide +kernel
theorem d7_58 : decode jdk_52_method_16_code 58 = .ok (.areturn, 1) := by decide +kernel
def QrmCp3_1_1 (Z : State) (a0 : Addr) (ka : ClassId) (c0 : Int32) (h0 : Heap) (n0 : Nat) (v : Option Value) (h : Heap) (L : List Loc) : Prop := ∃ (b : Addr) (k : ClassId), v = some (.ref b) ∧ Fr n0 L ∧ h0.size ≤ b ∧ Keep h0 h [] ∧ Arv Z h b k .byte (1 : Int32) [(.int (own_b c0))] (.int (0 : Int32))
set_option maxRecDepth 65536 in
set_option maxHeartbeats 40000000 in
theorem rmCp3_1_1 (l : Launch) (Z : State) (av0 : Array Value) (hw : ∀ d ∈ tables_1, d.before av0 Z = true) (ws : List Jvm.Cond) (a0 : Addr) (ka : ClassId) (c0 : Int32) (h0 : Heap) (n0 : Nat) (Z0 : n0 ≤ h0.size) (hA : Arv Z h0 a0 ka .char (1 : Int32) [(.int c0)] (.int (0 : Int32))) (hc0 : ¬ (255 : Int32) < c0) :
    own_Met l mN21 jdk_52_method_16_code 6 (some (.array .byte)) ws ({ frames := 3, cells := 2, slots := 3, locals := 40 } : Room) #[(.ref a0), (.int 0), (.int 1)] Z h0 (QrmCp3_1_1 Z a0 ka c0 h0 n0) := by
  refine MetFree.of_bodySF (plainFor_of_name pn_StringUTF16) hisR ?_
  intro p e s m args below meth c s₁ Bd hml0 hP hK
  obtain ⟨rfl, hZ, hh⟩ := hP
  have hml : c.maxLocals = 6 := hml0
  obtain ⟨hx, hby, hown, hnm, X0, e0⟩ := own_start Bd hml0 hh
  have N0 := Fr.nil n0
  have pre0 : ∀ t, oS p e below s₁ (mkF m 0 #[rv a0, iv 0, iv 1, .unset, .unset, .unset] []) t → Steps p.tables e below (s₁.setTop (entryFrame m #[(.ref a0), (.int 0), (.int 1)] 6)) t := fun t k => castTop (by first | (simp [entryFrame, mkF, argsToLocals, Value.category]; done) | rfl) k
  obtain ⟨T1, h1, k1, X1, e1, E1, A1, st1⟩ := newP X0 hx hZ (hw _ (own_w 16 rfl)) e0 (g := (mkF m 1 #[rv a0, iv 0, iv 1, .unset, .unset, .unset] [(.int 1)])) rfl (hb hby d7_1) rfl (by decide) (cap := 1) (by decide) (by decide) (by decide) (by decide)
  obtain ⟨b1, g1⟩ : ∃ z, z = h0.size := ⟨_, rfl⟩
  rw [← g1] at A1 st1
  have ne_a0_b1 : a0 ≠ b1 := Nat.ne_of_lt (Nat.lt_of_lt_of_le hA.lt (Nat.le_of_eq g1.symm))
  have ge_b1 : n0 ≤ b1 := Nat.le_trans Z0 (Nat.le_of_eq g1.symm)
  have sz_b1 : h0.size ≤ b1 := Nat.le_of_eq g1.symm
  have Z1 : n0 ≤ h1.size := Nat.le_trans Z0 E1.1
  have K1 : Keep h0 h1 [] := (Keep.refl h0 []).ext E1
  have V1 : Arv Z h1 b1 k1 .byte (1 : Int32) [(.int (0 : Int32))] (.int (0 : Int32)) := (Arv.new A1 (by decide)).pad (pad_rep [] (.int (0 : Int32)) 1)
  have f2 := (hA.ext E1)
  obtain ⟨_, T3, Lc3, X3, hQ3, st3⟩ := own_callS (W := 0) (y := mN16) X1 hx hZ hown (hw _ (own_w 42 rfl)) (hw _ (own_w 43 rfl)) (hw _ (own_w 40 rfl)) (hw _ (own_w 44 rfl)) (by decide) (rmCp5_1_1 l Z av0 hw [] a0 b1 ka k1 c0 h1 n0 Z1 f2 V1 ne_a0_b1 ge_b1 hc0) (by decide) (by decide) (g := (mkF m 9 #[rv a0, iv 0, iv 1, rv b1, .unset, .unset] [(.int 1), (.int 0), (.ref b1), (.int 0), (.ref a0)])) rfl (by rw [hml]; rfl) (argsL := [(.ref a0), (.int 0), (.ref b1), (.int 0), (.int 1)]) (rest := []) (lenOf pd__CI_BII_I rfl) rfl (hb hby d7_9) rfl e1 (by decide : 1 + 0 ≤ _) (by decide : 1 + 0 ≤ _)
  obtain ⟨rfl, N3q, K3, V3⟩ := hQ3
  have N3 := Fr.app N0 N3q
  have e3 : T3.heap = T3.heap := rfl
  have Zk3 : n0 ≤ T3.heap.size := Nat.le_trans Z1 K3.1
  have Kk3 : Keep h0 T3.heap [] := K1.trans K3 (allS (Or.inr sz_b1) all0)
  have S4 : ∀ t, oS p e below T3 (mkF m 58 #[rv a0, iv 0, iv 1, rv b1, iv 1, .unset] [(.ref b1)]) t → oS p e below s₁ (mkF m 0 #[rv a0, iv 0, iv 1, .unset, .unset, .unset] []) t := fun t k => id (by
    show oS p e below s₁ (mkF m 0 #[rv a0, iv 0, iv 1, .unset, .unset, .unset] []) _
    refine XS.iloadN X0.here hx rfl (hb hby d7_0) rfl ?_
    refine st1 _ ?_
    refine XS.astoreN X1.here hx rfl (hb hby d7_3) rfl rfl (l' := #[rv a0, iv 0, iv 1, rv b1, .unset, .unset]) rfl ?_
    refine XS.aloadN X1.here hx rfl (hb hby d7_4) rfl rfl ?_
    refine XS.iloadN X1.here hx rfl (hb hby d7_5) rfl ?_
    refine XS.aloadN X1.here hx rfl (hb hby d7_6) rfl rfl ?_
    refine XT.iconstV X1.here hx rfl (0 : Int32) (hb hby d7_7) (by decide) ?_
    refine XS.iloadN X1.here hx rfl (hb hby d7_8) rfl ?_
    refine st3 _ ?_
    refine XS.istore X3.here hx rfl (hb hby d7_12) rfl (l' := #[rv a0, iv 0, iv 1, rv b1, iv 1, .unset]) rfl ?_
    refine XS.iload X3.here hx rfl (hb hby d7_14) rfl ?_
    refine XS.iloadN X3.here hx rfl (hb hby d7_16) rfl ?_
    refine XS.icmpYes X3.here hx rfl (pc0 := 17) (pc' := 57) rfl (hb hby d7_17) rfl (XT.ii_eq_t (by decide)) (by decide) (by decide) ?_
    refine XS.aloadN X3.here hx rfl (hb hby d7_57) rfl rfl ?_
    exact k)
  obtain ⟨fs, hr, hrun, hended, hW, hsame⟩ := X3.leave (v := some (.ref b1)) (fun h => by rw [Bd.returns] at h; cases h)
  refine ⟨_, _, pre0 _ (S4 _ ?_), hrun, hended, _, _, rfl, ?_, ⟨_, rfl⟩, hW, hsame.mono (by decide) (by decide)⟩
  · jvm_step X3.here [X3.here.top, hx, (hb hby d7_58), X3.method', Bd.returns, Value.isRef, FieldType.isReference]
    first | (intro acts; rw [hr _ acts rfl rfl rfl]) | rw [hr _ _ rfl rfl rfl]
    exact Steps.refl _
  · show QrmCp3_1_1 Z a0 ka c0 h0 n0 _ T3.heap _
    rw [e3]
    exact ⟨_, _, rfl, N3, sz_b1, Kk3, V3⟩
def QCp3_1 (Z : State) (c0 : Int32) (h0 : Heap) (n0 : Nat) (v : Option Value) (h : Heap) (L : List Loc) : Prop := (∃ (b : Addr) (k : ClassId), v = some (.ref b) ∧ Fr n0 L ∧ h0.size ≤ b ∧ Keep h0 h [] ∧ Arv Z h b k .byte (1 : Int32) [(.int (own_b c0))] (.int (0 : Int32)) ∧ ¬ (255 : Int32) < c0) ∨ (∃ (b : Addr) (k : ClassId), v = some (.ref b) ∧ Fr n0 L ∧ h0.size ≤ b ∧ Keep h0 h [] ∧ Arv Z h b k .byte (2 : Int32) [(.int (own_lo c0)), (.int (own_hi c0))] (.int (0 : Int32)))
theorem rmCp3J_1 (l : Launch) (Z : State) (av0 : Array Value) (hw : ∀ d ∈ tables_1, d.before av0 Z = true) (ws : List Jvm.Cond) (a0 : Addr) (ka : ClassId) (c0 : Int32) (h0 : Heap) (n0 : Nat) (Z0 : n0 ≤ h0.size) (hA : Arv Z h0 a0 ka .char (1 : Int32) [(.int c0)] (.int (0 : Int32))) (hg0 : 0 ≤ c0.toInt ∧ c0.toInt < 65536) (sA : Sta Z h0 "java/lang/StringUTF16" "$assertionsDisabled" "Z" (.int (1 : Int32))) (sH : Sta Z h0 "java/lang/StringUTF16" "HI_BYTE_SHIFT" "I" (.int (0 : Int32))) (sL : Sta Z h0 "java/lang/StringUTF16" "LO_BYTE_SHIFT" "I" (.int (8 : Int32))) :
    own_Met l mN21 jdk_52_method_16_code 6 (some (.array .byte)) ws ({ frames := 3, cells := 2, slots := 3, locals := 40 } : Room) #[(.ref a0), (.int (0 : Int32)), (.int (1 : Int32))] Z h0 (QCp3_1 Z c0 h0 n0) := by
  by_cases q0 : (255 : Int32) < c0
  · exact own_weak (rmCp3_1_0 l Z av0 hw ws a0 ka c0 h0 n0 Z0 hA  q0 hg0 sA sH sL) (fun v t L q => Or.inr q)
  exact own_weak (rmCp3_1_1 l Z av0 hw ws a0 ka c0 h0 n0 Z0 hA q0) (fun v t L ⟨b, k, z1, z2, z3, z4, z5⟩ => Or.inl ⟨b, k, z1, z2, z3, z4, z5, q0⟩)
theorem d9_0 : decode jdk_52_method_15_code 0 = .ok (.iload_n 1, 1) := by decide +kernel
theorem d9_1 : decode jdk_52_method_15_code 1 = .ok (.aload_n 0, 1) := by decide +kernel
theorem d9_2 : decode jdk_52_method_15_code 2 = .ok (.arraylength, 1) := by decide +kernel
theorem d9_3 : decode jdk_52_method_15_code 3 = .ok (.isub, 1) := by decide +kernel
theorem d9_4 : decode jdk_52_method_15_code 4 = .ok (.bipush 31, 2) := by decide +kernel
theorem d9_6 : decode jdk_52_method_15_code 6 = .ok (.iushr, 1) := by decide +kernel
theorem d9_7 : decode jdk_52_method_15_code 7 = .ok (.i2b, 1) := by decide +kernel
theorem d9_8 : decode jdk_52_method_15_code 8 = .ok (.ireturn, 1) := by decide +kernel
def QrmCd_1_0 (Z : State) (a0 : Addr) (ka : ClassId) (vs : List Value) (h0 : Heap) (n0 : Nat) (v : Option Value) (h : Heap) (L : List Loc) : Prop := v = some (.int 0) ∧ Fr n0 L ∧ h = h0
set_option maxRecDepth 65536 in
set_option maxHeartbeats 40000000 in
theorem rmCd_1_0 (l : Launch) (Z : State) (av0 : Array Value) (hw : ∀ d ∈ tables_1, d.before av0 Z = true) (ws : List Jvm.Cond) (a0 : Addr) (ka : ClassId) (vs : List Value) (h0 : Heap) (n0 : Nat) (Z0 : n0 ≤ h0.size) (hA : Arv Z h0 a0 ka .byte (1 : Int32) vs (.int (0 : Int32))) :
    own_Met l mN22 jdk_52_method_15_code 2 (some .byte) ws ({ frames := 0, cells := 0, slots := 0, locals := 0 } : Room) #[(.ref a0), (.int 1)] Z h0 (QrmCd_1_0 Z a0 ka vs h0 n0) := by
  refine MetFree.of_bodySF (plainFor_of_name pn_StringUTF16) hisR ?_
  intro p e s m args below meth c s₁ Bd hml0 hP hK
  obtain ⟨rfl, hZ, hh⟩ := hP
  have hml : c.maxLocals = 2 := hml0
  obtain ⟨hx, hby, hown, hnm, X0, e0⟩ := own_start Bd hml0 hh
  have N0 := Fr.nil n0
  have pre0 : ∀ t, oS p e below s₁ (mkF m 0 #[rv a0, iv 1] []) t → Steps p.tables e below (s₁.setTop (entryFrame m #[(.ref a0), (.int 1)] 2)) t := fun t k => castTop (by first | (simp [entryFrame, mkF, argsToLocals, Value.category]; done) | rfl) k
  obtain ⟨cl1, Ar1, qk1, Sz1, Ng1, Hs1, Gs1⟩ := id hA
  have S2 : ∀ t, oS p e below s₁ (mkF m 8 #[rv a0, iv 1] [(.int 0)]) t → oS p e below s₁ (mkF m 0 #[rv a0, iv 1] []) t := fun t k => id (by
    show oS p e below s₁ (mkF m 0 #[rv a0, iv 1] []) _
    refine XS.iloadN X0.here hx rfl (hb hby d9_0) rfl ?_
    refine XS.aloadN X0.here hx rfl (hb hby d9_1) rfl rfl ?_
    refine X0.arraylength hx (by rw [e0]; exact Ar1.1) (State.isArrayOf_alike hZ.alike Ar1.2.1) (g := (mkF m 2 #[rv a0, iv 1] [(.ref a0), (.int 1)])) rfl rfl (hb hby d9_2) _ ?_
    rw [len_of Sz1 Ng1]
    refine XS.isub X0.here hx rfl (hb hby d9_3) rfl ?_
    refine XT.bipushV X0.here hx rfl (31 : Int32) (hb hby d9_4) (by decide) ?_
    refine XT.iushr X0.here hx rfl (hb hby d9_6) rfl ?_
    refine XT.i2b X0.here hx rfl (hb hby d9_7) rfl ?_
    exact k)
  obtain ⟨fs, hr, hrun, hended, hW, hsame⟩ := X0.leave (v := some (.int (nar .byte (0 : Int32)))) (fun h => by rw [Bd.returns] at h; cases h)
  refine ⟨_, _, pre0 _ (S2 _ ?_), hrun, hended, _, _, rfl, ?_, ⟨_, rfl⟩, hW, hsame.mono (by decide) (by decide)⟩
  · exact retN X0 hx (t := .byte) Bd.returns (by simp) (hb hby d9_8) hr
  · show QrmCd_1_0 Z a0 ka vs h0 n0 _ s₁.heap _
    rw [e0]
    exact ⟨congrArg (fun z => some (Value.int z)) (by decide), N0, rfl⟩
def QrmCd_1_1 (Z : State) (a0 : Addr) (ka : ClassId) (vs : List Value) (h0 : Heap) (n0 : Nat) (v : Option Value) (h : Heap) (L : List Loc) : Prop := v = some (.int 1) ∧ Fr n0 L ∧ h = h0
set_option maxRecDepth 65536 in
set_option maxHeartbeats 40000000 in
theorem rmCd_1_1 (l : Launch) (Z : State) (av0 : Array Value) (hw : ∀ d ∈ tables_1, d.before av0 Z = true) (ws : List Jvm.Cond) (a0 : Addr) (ka : ClassId) (vs : List Value) (h0 : Heap) (n0 : Nat) (Z0 : n0 ≤ h0.size) (hA : Arv Z h0 a0 ka .byte (2 : Int32) vs (.int (0 : Int32))) :
    own_Met l mN22 jdk_52_method_15_code 2 (some .byte) ws ({ frames := 0, cells := 0, slots := 0, locals := 0 } : Room) #[(.ref a0), (.int 1)] Z h0 (QrmCd_1_1 Z a0 ka vs h0 n0) := by
  refine MetFree.of_bodySF (plainFor_of_name pn_StringUTF16) hisR ?_
  intro p e s m args below meth c s₁ Bd hml0 hP hK
  obtain ⟨rfl, hZ, hh⟩ := hP
  have hml : c.maxLocals = 2 := hml0
  obtain ⟨hx, hby, hown, hnm, X0, e0⟩ := own_start Bd hml0 hh
  have N0 := Fr.nil n0
  have pre0 : ∀ t, oS p e below s₁ (mkF m 0 #[rv a0, iv 1] []) t → Steps p.tables e below (s₁.setTop (entryFrame m #[(.ref a0), (.int 1)] 2)) t := fun t k => castTop (by first | (simp [entryFrame, mkF, argsToLocals, Value.category]; done) | rfl) k
  obtain ⟨cl1, Ar1, qk1, Sz1, Ng1, Hs1, Gs1⟩ := id hA
  have S2 : ∀ t, oS p e below s₁ (mkF m 8 #[rv a0, iv 1] [(.int 1)]) t → oS p e below s₁ (mkF m 0 #[rv a0, iv 1] []) t := fun t k => id (by
    show oS p e below s₁ (mkF m 0 #[rv a0, iv 1] []) _
    refine XS.iloadN X0.here hx rfl (hb hby d9_0) rfl ?_
    refine XS.aloadN X0.here hx rfl (hb hby d9_1) rfl rfl ?_
    refine X0.arraylength hx (by rw [e0]; exact Ar1.1) (State.isArrayOf_alike hZ.alike Ar1.2.1) (g := (mkF m 2 #[rv a0, iv 1] [(.ref a0), (.int 1)])) rfl rfl (hb hby d9_2) _ ?_
    rw [len_of Sz1 Ng1]
    refine XS.isub X0.here hx rfl (hb hby d9_3) rfl ?_
    refine XT.bipushV X0.here hx rfl (31 : Int32) (hb hby d9_4) (by decide) ?_
    refine XT.iushr X0.here hx rfl (hb hby d9_6) rfl ?_
    refine XT.i2b X0.here hx rfl (hb hby d9_7) rfl ?_
    exact k)
  obtain ⟨fs, hr, hrun, hended, hW, hsame⟩ := X0.leave (v := some (.int (nar .byte (1 : Int32)))) (fun h => by rw [Bd.returns] at h; cases h)
  refine ⟨_, _, pre0 _ (S2 _ ?_), hrun, hended, _, _, rfl, ?_, ⟨_, rfl⟩, hW, hsame.mono (by decide) (by decide)⟩
  · exact retN X0 hx (t := .byte) Bd.returns (by simp) (hb hby d9_8) hr
  · show QrmCd_1_1 Z a0 ka vs h0 n0 _ s₁.heap _
    rw [e0]
    exact ⟨congrArg (fun z => some (Value.int z)) (by decide), N0, rfl⟩
theorem d2_27 : decode jdk_42_method_149_code 27 = .ok (.getstatic 38, 3) := by decide +kernel
theorem d2_30 : decode jdk_42_method_149_code 30 = .ok (.ifCond .eq 28, 3) := by decide +kernel
theorem d2_33 : decode jdk_42_method_149_code 33 = .ok (.aload_n 1, 1) := by decide +kernel
theorem d2_34 : decode jdk_42_method_149_code 34 = .ok (.iload_n 2, 1) := by decide +kernel
theorem d2_35 : decode jdk_42_method_149_code 35 = .ok (.iload_n 3, 1) := by decide +kernel
theorem d2_36 : decode jdk_42_method_149_code 36 = .ok (.invokestatic 177, 3) := by decide +kernel
theorem d2_39 : decode jdk_42_method_149_code 39 = .ok (.astore 5, 2) := by decide +kernel
theorem d2_41 : decode jdk_42_method_149_code 41 = .ok (.aload_n 0, 1) := by decide +kernel
theorem d2_42 : decode jdk_42_method_149_code 42 = .ok (.aload 5, 2) := by decide +kernel
theorem d2_44 : decode jdk_42_method_149_code 44 = .ok (.iload_n 3, 1) := by decide +kernel
theorem d2_45 : decode jdk_42_method_149_code 45 = .ok (.invokestatic 47, 3) := by decide +kernel
theorem d2_48 : decode jdk_42_method_149_code 48 = .ok (.putfield 15, 3) := by decide +kernel
theorem d2_51 : decode jdk_42_method_149_code 51 = .ok (.aload_n 0, 1) := by decide +kernel
theorem d2_52 : decode jdk_42_method_149_code 52 = .ok (.aload 5, 2) := by decide +kernel
theorem d2_54 : decode jdk_42_method_149_code 54 = .ok (.putfield 9, 3) := by decide +kernel
theorem d2_57 : decode jdk_42_method_149_code 57 = .ok (.return_, 1) := by decide +kernel
theorem pd__BI_B : parseMethodDescriptor "([BI)B" = some ⟨[(.array .byte), .int], some .byte⟩ := by decide +kernel
def QrmSi4_1 (Z : State) (a0 : Addr) (a1 : Addr) (ka : ClassId) (wC : Int32) (c0 : Int32) (h0 : Heap) (n0 : Nat) (v : Option Value) (h : Heap) (L : List Loc) : Prop := v = none ∧ Fr n0 L ∧ Keep h0 h [a0] ∧ own_St1 Z h a0 c0
set_option maxRecDepth 65536 in
set_option maxHeartbeats 40000000 in
theorem rmSi4_1 (l : Launch) (Z : State) (av0 : Array Value) (hw : ∀ d ∈ tables_1, d.before av0 Z = true) (ws : List Jvm.Cond) (a0 : Addr) (a1 : Addr) (ka : ClassId) (wC : Int32) (c0 : Int32) (h0 : Heap) (n0 : Nat) (Z0 : n0 ≤ h0.size) (hE : Exa Z h0 a0 "java/lang/String") (hV : Fld Z h0 a0 "java/lang/String" "value" "[B" .null) (hC : Fld Z h0 a0 "java/lang/String" "coder" "B" (.int (0 : Int32))) (hge : n0 ≤ a0) (hA : Arv Z h0 a1 ka .char (1 : Int32) [(.int c0)] (.int (0 : Int32))) (hS : Sta Z h0 "java/lang/String" "COMPACT_STRINGS" "Z" (.int wC)) (hw0 : ¬ wC = (0 : Int32)) (hg0 : 0 ≤ c0.toInt ∧ c0.toInt < 65536) (sA : Sta Z h0 "java/lang/StringUTF16" "$assertionsDisabled" "Z" (.int (1 : Int32))) (sH : Sta Z h0 "java/lang/StringUTF16" "HI_BYTE_SHIFT" "I" (.int (0 : Int32))) (sL : Sta Z h0 "java/lang/StringUTF16" "LO_BYTE_SHIFT" "I" (.int (8 : Int32))) :
    own_Met l mN2 jdk_42_method_149_code 6 none ws ({ frames := 4, cells := 2, slots := 3, locals := 57 } : Room) #[(.ref a0), (.ref a1), (.int 0), (.int 1), .null] Z h0 (QrmSi4_1 Z a0 a1 ka wC c0 h0 n0) := by
  refine MetFree.of_bodySF (plainFor_of_name pn_String) hisR ?_
  intro p e s m args below meth c s₁ Bd hml0 hP hK
  obtain ⟨rfl, hZ, hh⟩ := hP
  have hml : c.maxLocals = 6 := hml0
  obtain ⟨hx, hby, hown, hnm, X0, e0⟩ := own_start Bd hml0 hh
  have N0 := Fr.nil n0
  have pre0 : ∀ t, oS p e below s₁ (mkF m 0 #[rv a0, rv a1, iv 0, iv 1, .val .null, .unset] []) t → Steps p.tables e below (s₁.setTop (entryFrame m #[(.ref a0), (.ref a1), (.int 0), (.int 1), .null] 6)) t := fun t k => castTop (by first | (simp [entryFrame, mkF, argsToLocals, Value.category]; done) | rfl) k
  obtain ⟨T1, X1, e1, st1⟩ := initO X0 hx hZ hown (hw _ (own_w 12 rfl)) (hw _ (own_w 13 rfl)) (hw _ (own_w 14 rfl)) e0 (g := (mkF m 1 #[rv a0, rv a1, iv 0, iv 1, .val .null, .unset] [(.ref a0)])) rfl (by rw [hml]; rfl) rfl (hb hby d2_1) (by decide) (W := 0) (by show 2 * 0 + _ ≤ _; exact Nat.le_of_eq rfl) (by decide)
  obtain ⟨T2, X2, e2, st2⟩ := getS2 X1 hx hZ hown (host := "") (Or.inl (hw _ (own_w 37 rfl))) Via.refl e1 hS (g := (mkF m 27 #[rv a0, rv a1, iv 0, iv 1, .val .null, .unset] [])) rfl (hb hby d2_27)
  obtain ⟨_, T3, Lc3, X3, hQ3, st3⟩ := own_callS (W := 0) (y := mN21) X2 hx hZ hown (hw _ (own_w 38 rfl)) (hw _ (own_w 39 rfl)) (hw _ (own_w 40 rfl)) (hw _ (own_w 41 rfl)) (by decide) (rmCp3J_1 l Z av0 hw [] a1 ka c0 h0 n0 Z0 hA hg0 sA sH sL) (by decide) (by decide) (g := (mkF m 36 #[rv a0, rv a1, iv 0, iv 1, .val .null, .unset] [(.int 1), (.int 0), (.ref a1)])) rfl (by rw [hml]; rfl) (argsL := [(.ref a1), (.int 0), (.int 1)]) (rest := []) (lenOf pd__CII_B rfl) rfl (hb hby d2_36) rfl e2 (by decide : 0 + 2 ≤ _) (by decide : 0 + 3 ≤ _)
  rcases hQ3 with ⟨b3, kb3, rfl, N3q, gb3, K3, V3, lt0_3⟩ | ⟨b3, kb3, rfl, N3q, gb3, K3, V3⟩
  · have N3 := Fr.app N0 N3q
    have e3 : T3.heap = T3.heap := rfl
    have ne_a0_b3 : a0 ≠ b3 := Nat.ne_of_lt (Nat.lt_of_lt_of_le hE.lt gb3)
    have ne_a1_b3 : a1 ≠ b3 := Nat.ne_of_lt (Nat.lt_of_lt_of_le hA.lt gb3)
    have ge_b3 : n0 ≤ b3 := Nat.le_trans Z0 gb3
    have sz_b3 : h0.size ≤ b3 := gb3
    have Zk3 : n0 ≤ T3.heap.size := Nat.le_trans Z0 K3.1
    have Kk3 : Keep h0 T3.heap [a0] := (Keep.refl h0 [a0]).trans K3 all0
    obtain ⟨_, T4, Lc4, X4, hQ4, st4⟩ := own_callS (W := 1) (y := mN22) X3 hx hZ hown (hw _ (own_w 45 rfl)) (hw _ (own_w 46 rfl)) (hw _ (own_w 40 rfl)) (hw _ (own_w 47 rfl)) (by decide) (rmCd_1_0 l Z av0 hw [] b3 kb3 [(.int (own_b c0))] T3.heap n0 Zk3 V3) (by decide) (by decide) (g := (mkF m 45 #[rv a0, rv a1, iv 0, iv 1, .val .null, rv b3] [(.int 1), (.ref b3), (.ref a0)])) rfl (by rw [hml]; rfl) (argsL := [(.ref b3), (.int 1)]) (rest := [(.ref a0)]) (lenOf pd__BI_B rfl) rfl (hb hby d2_45) rfl e3 (by decide : 2 + 0 ≤ _) (by decide : 3 + 0 ≤ _)
    obtain ⟨rfl, N4q, hh4⟩ := hQ4
    have N4 := Fr.app N3 N4q
    have e4 : T4.heap = T3.heap := hh4
    have f5 := (hC.keep K3 nin0)
    have f6 := (hE.keep K3)
    obtain ⟨T7, h7, X7, e7, W7, st7⟩ := putFN X4 hx hZ hown (hw _ (own_w 22 rfl)) Via.refl e4 f5 f6 (Or.inr ⟨(hw _ (own_w 18 rfl)), rfl, hnm⟩) (hw _ (own_w 3 rfl)) (ty := .byte) (v' := (.int 0)) (by decide) rfl rfl (g := (mkF m 48 #[rv a0, rv a1, iv 0, iv 1, .val .null, rv b3] [(.int 0), (.ref a0)])) rfl rfl (hb hby d2_48)
    have N7 := Fr.snoc X7 N4 hge
    have Z7 : n0 ≤ h7.size := Nat.le_trans Zk3 (Nat.le_of_eq W7.size.symm)
    have K7 : Keep h0 h7 [a0] := Kk3.wr W7 (Or.inl (List.mem_of_getElem? (i := 0) rfl))
    have Fw7 := f5.same W7
    have f8 := ((hV.keep K3 nin0).other W7 (Or.inr (slot_ne (Or.inr (hw _ (own_w 17 rfl))) (Or.inr (hw _ (own_w 18 rfl))) (by decide) (t := (.array .byte)) (t' := .byte) (by decide) (by decide))))
    have f9 := (f6.wr W7)
    obtain ⟨T10, h10, X10, e10, W10, st10⟩ := putF X7 hx hZ hown (host := "") (Or.inl (hw _ (own_w 21 rfl))) Via.refl e7 f8 f9 (Or.inr ⟨(hw _ (own_w 17 rfl)), rfl, hnm⟩) (hw _ (own_w 3 rfl)) (ty := (.array .byte)) (by decide) rfl rfl (g := (mkF m 54 #[rv a0, rv a1, iv 0, iv 1, .val .null, rv b3] [(.ref b3), (.ref a0)])) rfl rfl (hb hby d2_54)
    have N10 := Fr.snoc X10 N7 hge
    have Z10 : n0 ≤ h10.size := Nat.le_trans Z7 (Nat.le_of_eq W10.size.symm)
    have K10 : Keep h0 h10 [a0] := K7.wr W10 (Or.inl (List.mem_of_getElem? (i := 0) rfl))
    have Fw10 := f8.same W10
    have S11 : ∀ t, oS p e below T10 (mkF m 57 #[rv a0, rv a1, iv 0, iv 1, .val .null, rv b3] []) t → oS p e below s₁ (mkF m 0 #[rv a0, rv a1, iv 0, iv 1, .val .null, .unset] []) t := fun t k => id (by
      show oS p e below s₁ (mkF m 0 #[rv a0, rv a1, iv 0, iv 1, .val .null, .unset] []) _
      refine XS.aloadN X0.here hx rfl (hb hby d2_0) rfl rfl ?_
      refine st1 _ ?_
      refine XS.iloadN X1.here hx rfl (hb hby d2_4) rfl ?_
      refine XS.ifYes X1.here hx rfl (pc0 := 5) (pc' := 27) rfl (hb hby d2_5) rfl (XT.i0_ne_t (by decide)) (by decide) (by decide) ?_
      refine st2 _ ?_
      refine XS.ifNo X2.here hx rfl (hb hby d2_30) rfl (XT.i0_eq_f hw0) ?_
      refine XS.aloadN X2.here hx rfl (hb hby d2_33) rfl rfl ?_
      refine XS.iloadN X2.here hx rfl (hb hby d2_34) rfl ?_
      refine XS.iloadN X2.here hx rfl (hb hby d2_35) rfl ?_
      refine st3 _ ?_
      refine XS.astore X3.here hx rfl (hb hby d2_39) rfl rfl (l' := #[rv a0, rv a1, iv 0, iv 1, .val .null, rv b3]) rfl ?_
      refine XS.aloadN X3.here hx rfl (hb hby d2_41) rfl rfl ?_
      refine XS.aload X3.here hx rfl (hb hby d2_42) rfl rfl ?_
      refine XS.iloadN X3.here hx rfl (hb hby d2_44) rfl ?_
      refine st4 _ ?_
      refine st7 _ ?_
      refine XS.aloadN X7.here hx rfl (hb hby d2_51) rfl rfl ?_
      refine XS.aload X7.here hx rfl (hb hby d2_52) rfl rfl ?_
      refine st10 _ ?_
      exact k)
    obtain ⟨fs, hr, hrun, hended, hW, hsame⟩ := X10.leave (v := none) (fun _ => rfl)
    refine ⟨_, _, pre0 _ (S11 _ ?_), hrun, hended, _, _, rfl, ?_, ⟨_, rfl⟩, hW, hsame.mono (by decide) (by decide)⟩
    · exact X10.returnOut hx Bd.returns (hb hby d2_57) hr
    have f12 := (Fw7.other W10 (Or.inr (slot_ne (Or.inr (hw _ (own_w 18 rfl))) (Or.inr (hw _ (own_w 17 rfl))) (by decide) (t := .byte) (t' := (.array .byte)) (by decide) (by decide))))
    have f13 := ((V3.other W7 (Ne.symm ne_a0_b3)).other W10 (Ne.symm ne_a0_b3))
    · show QrmSi4_1 Z a0 a1 ka wC c0 h0 n0 _ T10.heap _
      rw [e10]
      exact ⟨rfl, N10, K10, Or.inl ⟨b3, _, Fw10, f12, f13, lt0_3⟩⟩
  · have N3 := Fr.app N0 N3q
    have e3 : T3.heap = T3.heap := rfl
    have ne_a0_b3 : a0 ≠ b3 := Nat.ne_of_lt (Nat.lt_of_lt_of_le hE.lt gb3)
    have ne_a1_b3 : a1 ≠ b3 := Nat.ne_of_lt (Nat.lt_of_lt_of_le hA.lt gb3)
    have ge_b3 : n0 ≤ b3 := Nat.le_trans Z0 gb3
    have sz_b3 : h0.size ≤ b3 := gb3
    have Zk3 : n0 ≤ T3.heap.size := Nat.le_trans Z0 K3.1
    have Kk3 : Keep h0 T3.heap [a0] := (Keep.refl h0 [a0]).trans K3 all0
    obtain ⟨_, T14, Lc14, X14, hQ14, st14⟩ := own_callS (W := 1) (y := mN22) X3 hx hZ hown (hw _ (own_w 45 rfl)) (hw _ (own_w 46 rfl)) (hw _ (own_w 40 rfl)) (hw _ (own_w 47 rfl)) (by decide) (rmCd_1_1 l Z av0 hw [] b3 kb3 [(.int (own_lo c0)), (.int (own_hi c0))] T3.heap n0 Zk3 V3) (by decide) (by decide) (g := (mkF m 45 #[rv a0, rv a1, iv 0, iv 1, .val .null, rv b3] [(.int 1), (.ref b3), (.ref a0)])) rfl (by rw [hml]; rfl) (argsL := [(.ref b3), (.int 1)]) (rest := [(.ref a0)]) (lenOf pd__BI_B rfl) rfl (hb hby d2_45) rfl e3 (by decide : 2 + 0 ≤ _) (by decide : 3 + 0 ≤ _)
    obtain ⟨rfl, N14q, hh14⟩ := hQ14
    have N14 := Fr.app N3 N14q
    have e14 : T14.heap = T3.heap := hh14
    have f15 := (hC.keep K3 nin0)
    have f16 := (hE.keep K3)
    obtain ⟨T17, h17, X17, e17, W17, st17⟩ := putFN X14 hx hZ hown (hw _ (own_w 22 rfl)) Via.refl e14 f15 f16 (Or.inr ⟨(hw _ (own_w 18 rfl)), rfl, hnm⟩) (hw _ (own_w 3 rfl)) (ty := .byte) (v' := (.int 1)) (by decide) rfl rfl (g := (mkF m 48 #[rv a0, rv a1, iv 0, iv 1, .val .null, rv b3] [(.int 1), (.ref a0)])) rfl rfl (hb hby d2_48)
    have N17 := Fr.snoc X17 N14 hge
    have Z17 : n0 ≤ h17.size := Nat.le_trans Zk3 (Nat.le_of_eq W17.size.symm)
    have K17 : Keep h0 h17 [a0] := Kk3.wr W17 (Or.inl (List.mem_of_getElem? (i := 0) rfl))
    have Fw17 := f15.same W17
    have f18 := ((hV.keep K3 nin0).other W17 (Or.inr (slot_ne (Or.inr (hw _ (own_w 17 rfl))) (Or.inr (hw _ (own_w 18 rfl))) (by decide) (t := (.array .byte)) (t' := .byte) (by decide) (by decide))))
    have f19 := (f16.wr W17)
    obtain ⟨T20, h20, X20, e20, W20, st20⟩ := putF X17 hx hZ hown (host := "") (Or.inl (hw _ (own_w 21 rfl))) Via.refl e17 f18 f19 (Or.inr ⟨(hw _ (own_w 17 rfl)), rfl, hnm⟩) (hw _ (own_w 3 rfl)) (ty := (.array .byte)) (by decide) rfl rfl (g := (mkF m 54 #[rv a0, rv a1, iv 0, iv 1, .val .null, rv b3] [(.ref b3), (.ref a0)])) rfl rfl (hb hby d2_54)
    have N20 := Fr.snoc X20 N17 hge
    have Z20 : n0 ≤ h20.size := Nat.le_trans Z17 (Nat.le_of_eq W20.size.symm)
    have K20 : Keep h0 h20 [a0] := K17.wr W20 (Or.inl (List.mem_of_getElem? (i := 0) rfl))
    have Fw20 := f18.same W20
    have S21 : ∀ t, oS p e below T20 (mkF m 57 #[rv a0, rv a1, iv 0, iv 1, .val .null, rv b3] []) t → oS p e below s₁ (mkF m 0 #[rv a0, rv a1, iv 0, iv 1, .val .null, .unset] []) t := fun t k => id (by
      show oS p e below s₁ (mkF m 0 #[rv a0, rv a1, iv 0, iv 1, .val .null, .unset] []) _
      refine XS.aloadN X0.here hx rfl (hb hby d2_0) rfl rfl ?_
      refine st1 _ ?_
      refine XS.iloadN X1.here hx rfl (hb hby d2_4) rfl ?_
      refine XS.ifYes X1.here hx rfl (pc0 := 5) (pc' := 27) rfl (hb hby d2_5) rfl (XT.i0_ne_t (by decide)) (by decide) (by decide) ?_
      refine st2 _ ?_
      refine XS.ifNo X2.here hx rfl (hb hby d2_30) rfl (XT.i0_eq_f hw0) ?_
      refine XS.aloadN X2.here hx rfl (hb hby d2_33) rfl rfl ?_
      refine XS.iloadN X2.here hx rfl (hb hby d2_34) rfl ?_
      refine XS.iloadN X2.here hx rfl (hb hby d2_35) rfl ?_
      refine st3 _ ?_
      refine XS.astore X3.here hx rfl (hb hby d2_39) rfl rfl (l' := #[rv a0, rv a1, iv 0, iv 1, .val .null, rv b3]) rfl ?_
      refine XS.aloadN X3.here hx rfl (hb hby d2_41) rfl rfl ?_
      refine XS.aload X3.here hx rfl (hb hby d2_42) rfl rfl ?_
      refine XS.iloadN X3.here hx rfl (hb hby d2_44) rfl ?_
      refine st14 _ ?_
      refine st17 _ ?_
      refine XS.aloadN X17.here hx rfl (hb hby d2_51) rfl rfl ?_
      refine XS.aload X17.here hx rfl (hb hby d2_52) rfl rfl ?_
      refine st20 _ ?_
      exact k)
    obtain ⟨fs, hr, hrun, hended, hW, hsame⟩ := X20.leave (v := none) (fun _ => rfl)
    refine ⟨_, _, pre0 _ (S21 _ ?_), hrun, hended, _, _, rfl, ?_, ⟨_, rfl⟩, hW, hsame.mono (by decide) (by decide)⟩
    · exact X20.returnOut hx Bd.returns (hb hby d2_57) hr
    have f22 := (Fw17.other W20 (Or.inr (slot_ne (Or.inr (hw _ (own_w 18 rfl))) (Or.inr (hw _ (own_w 17 rfl))) (by decide) (t := .byte) (t' := (.array .byte)) (by decide) (by decide))))
    have f23 := ((V3.other W17 (Ne.symm ne_a0_b3)).other W20 (Ne.symm ne_a0_b3))
    · show QrmSi4_1 Z a0 a1 ka wC c0 h0 n0 _ T20.heap _
      rw [e20]
      exact ⟨rfl, N20, K20, Or.inr ⟨b3, _, Fw20, f22, f23⟩⟩
def QrmSi2_1 (Z : State) (a0 : Addr) (a1 : Addr) (ka : ClassId) (wC : Int32) (c0 : Int32) (h0 : Heap) (n0 : Nat) (v : Option Value) (h : Heap) (L : List Loc) : Prop := v = none ∧ Fr n0 L ∧ Keep h0 h [a0] ∧ own_St1 Z h a0 c0
set_option maxRecDepth 65536 in
set_option maxHeartbeats 40000000 in
theorem rmSi2_1 (l : Launch) (Z : State) (av0 : Array Value) (hw : ∀ d ∈ tables_1, d.before av0 Z = true) (ws : List Jvm.Cond) (a0 : Addr) (a1 : Addr) (ka : ClassId) (wC : Int32) (c0 : Int32) (h0 : Heap) (n0 : Nat) (Z0 : n0 ≤ h0.size) (hE : Exa Z h0 a0 "java/lang/String") (hV : Fld Z h0 a0 "java/lang/String" "value" "[B" .null) (hC : Fld Z h0 a0 "java/lang/String" "coder" "B" (.int (0 : Int32))) (hge : n0 ≤ a0) (hA : Arv Z h0 a1 ka .char (1 : Int32) [(.int c0)] (.int (0 : Int32))) (hS : Sta Z h0 "java/lang/String" "COMPACT_STRINGS" "Z" (.int wC)) (hw0 : ¬ wC = (0 : Int32)) (hg0 : 0 ≤ c0.toInt ∧ c0.toInt < 65536) (sA : Sta Z h0 "java/lang/StringUTF16" "$assertionsDisabled" "Z" (.int (1 : Int32))) (sH : Sta Z h0 "java/lang/StringUTF16" "HI_BYTE_SHIFT" "I" (.int (0 : Int32))) (sL : Sta Z h0 "java/lang/StringUTF16" "LO_BYTE_SHIFT" "I" (.int (8 : Int32))) :
    own_Met l mN3 jdk_42_method_3_code 2 none ws ({ frames := 5, cells := 2, slots := 3, locals := 74 } : Room) #[(.ref a0), (.ref a1)] Z h0 (QrmSi2_1 Z a0 a1 ka wC c0 h0 n0) := by
  refine MetFree.of_bodySF (plainFor_of_name pn_String) hisR ?_
  intro p e s m args below meth c s₁ Bd hml0 hP hK
  obtain ⟨rfl, hZ, hh⟩ := hP
  have hml : c.maxLocals = 2 := hml0
  obtain ⟨hx, hby, hown, hnm, X0, e0⟩ := own_start Bd hml0 hh
  have N0 := Fr.nil n0
  have pre0 : ∀ t, oS p e below s₁ (mkF m 0 #[rv a0, rv a1] []) t → Steps p.tables e below (s₁.setTop (entryFrame m #[(.ref a0), (.ref a1)] 2)) t := fun t k => castTop (by first | (simp [entryFrame, mkF, argsToLocals, Value.category]; done) | rfl) k
  obtain ⟨cl1, Ar1, qk1, Sz1, Ng1, Hs1, Gs1⟩ := id hA
  obtain ⟨_, T2, Lc2, X2, hQ2, st2⟩ := own_special (W := 0) (y := mN2) X0 hx hZ rfl hown (hw _ (own_w 8 rfl)) (hw _ (own_w 9 rfl)) (hw _ (own_w 11 rfl)) (hw _ (own_w 4 rfl)) (by decide) (rmSi4_1 l Z av0 hw [] a0 a1 ka wC c0 h0 n0 Z0 hE hV hC hge hA hS hw0 hg0 sA sH sL) (by decide) (by decide) (g := (mkF m 6 #[rv a0, rv a1] [.null, (.int 1), (.int 0), (.ref a1), (.ref a0)])) rfl (by rw [hml]; rfl) (a := a0) (argsL := [(.ref a1), (.int 0), (.int 1), .null]) (rest := []) (lenOf pd__CIILjava_lang_Void_V rfl) rfl (hb hby d1_6) rfl e0 (by decide : 0 + 2 ≤ _) (by decide : 0 + 3 ≤ _)
  obtain ⟨rfl, N2q, K2, St2⟩ := hQ2
  have N2 := Fr.app N0 N2q
  have e2 : T2.heap = T2.heap := rfl
  have Zk2 : n0 ≤ T2.heap.size := Nat.le_trans Z0 K2.1
  have Kk2 : Keep h0 T2.heap [a0] := (Keep.refl h0 [a0]).trans K2 (allS (Or.inl (List.mem_of_getElem? (i := 0) rfl)) all0)
  have S3 : ∀ t, oS p e below T2 (mkF m 9 #[rv a0, rv a1] []) t → oS p e below s₁ (mkF m 0 #[rv a0, rv a1] []) t := fun t k => id (by
    show oS p e below s₁ (mkF m 0 #[rv a0, rv a1] []) _
    refine XS.aloadN X0.here hx rfl (hb hby d1_0) rfl rfl ?_
    refine XS.aloadN X0.here hx rfl (hb hby d1_1) rfl rfl ?_
    refine XT.iconstV X0.here hx rfl (0 : Int32) (hb hby d1_2) (by decide) ?_
    refine XS.aloadN X0.here hx rfl (hb hby d1_3) rfl rfl ?_
    refine X0.arraylength hx (by rw [e0]; exact Ar1.1) (State.isArrayOf_alike hZ.alike Ar1.2.1) (g := (mkF m 4 #[rv a0, rv a1] [(.ref a1), (.int 0), (.ref a1), (.ref a0)])) rfl rfl (hb hby d1_4) _ ?_
    rw [len_of Sz1 Ng1]
    refine XS.aconstNull X0.here hx rfl (hb hby d1_5) ?_
    refine st2 _ ?_
    exact k)
  obtain ⟨fs, hr, hrun, hended, hW, hsame⟩ := X2.leave (v := none) (fun _ => rfl)
  refine ⟨_, _, pre0 _ (S3 _ ?_), hrun, hended, _, _, rfl, ?_, ⟨_, rfl⟩, hW, hsame.mono (by decide) (by decide)⟩
  · exact X2.returnOut hx Bd.returns (hb hby d1_9) hr
  · show QrmSi2_1 Z a0 a1 ka wC c0 h0 n0 _ T2.heap _
    rw [e2]
    exact ⟨rfl, N2, Kk2, St2⟩
set_option maxRecDepth 65536 in
set_option maxHeartbeats 40000000 in
theorem rm0_1 (l : Launch) (Z : State) (av0 : Array Value) (hw : ∀ d ∈ tables_1, d.before av0 Z = true) (ws : List Jvm.Cond) (p0 : Int32) (p1 : Int32) (p2 : Int32) (p3 : Int32) (p4 : Int32) (wC : Int32) (fm : Value) (h0 : Heap) (n0 : Nat) (Z0 : n0 ≤ h0.size) (hS : Sta Z h0 "java/lang/String" "COMPACT_STRINGS" "Z" (.int wC)) (hw0 : ¬ wC = (0 : Int32)) (hfm : fm.isRef = true) (hF : Sta Z h0 "jdk/internal/util/Preconditions" "SIOOBE_FORMATTER" "Ljava/util/function/BiFunction;" fm) (sA : Sta Z h0 "java/lang/StringUTF16" "$assertionsDisabled" "Z" (.int (1 : Int32))) (sH : Sta Z h0 "java/lang/StringUTF16" "HI_BYTE_SHIFT" "I" (.int (0 : Int32))) (sL : Sta Z h0 "java/lang/StringUTF16" "LO_BYTE_SHIFT" "I" (.int (8 : Int32))) (hkp : ∀ (b : Addr) (cl : Cell), Z.heap[b]? = some cl → h0[b]? = some cl) (hcH : Jvm.Lit.constHeld Z "java/lang/String" 7) (hcw : Jvm.Lit.compactW.before av0 Z = true) (hk : own_P p0 (5 : Int32) = (1 : Int32)) :
    MetFree l x (head1 (Jvm.Cond.code x code maxLocals ret :: ws) room_1) (fun aU U => aU = #[(.int p0), (.int p1), (.int p2), (.int p3), (.int p4)] ∧ Z.Warmed39 U.vm ∧ U.heap = h0 ∧ IB Z U.vm []) (fun _ _ _ _ _ => True) (fun _ U oU U' => ∃ vU LU, oU = .returned vU ∧ Qrm0 Z p0 p1 p2 p3 p4 wC fm h0 n0 vU U'.heap LU ∧ ReturnedEndW U oU U' LU room_1.cells room_1.slots) := by
  refine MetFree.of_bodySF (plainFor_of_name pn_XsNamesIsNamespaceNamePinLaw) hisR ?_
  intro p e s m args below meth c s₁ Bd hml0 hP hK
  obtain ⟨rfl, hZ, hh, hI⟩ := hP
  have hml : c.maxLocals = 13 := hml0
  obtain ⟨hx, hby, hown, hnm, X0, e0⟩ := own_start Bd hml0 hh
  have N0 := Fr.nil n0
  have pre0 : ∀ t, oS p e below s₁ (mkF m 0 #[iv p0, iv p1, iv p2, iv p3, iv p4, .unset, .unset, .unset, .unset, .unset, .unset, .unset, .unset] []) t → Steps p.tables e below (s₁.setTop (entryFrame m #[(.int p0), (.int p1), (.int p2), (.int p3), (.int p4)] maxLocals)) t := fun t k => castTop (by first | (simp [entryFrame, mkF, argsToLocals, Value.category, maxLocals]; done) | rfl) k
  obtain ⟨T1, h1, k1, X1, e1, E1, A1, st1⟩ := newP X0 hx hZ (hw _ (own_w 1 rfl)) e0 (g := (mkF m 27 #[iv p0, iv p1, iv p2, iv p3, iv p4, iv 1, iv (own_c p1), iv (own_c p2), iv (own_c p3), iv (own_c p4), .unset, .unset, .unset] [(.int 1)])) rfl (hb hby at_27) rfl (by decide) (cap := 1) (by decide) (by decide) (by decide) (by decide)
  obtain ⟨b1, g1⟩ : ∃ z, z = h0.size := ⟨_, rfl⟩
  rw [← g1] at A1 st1
  have ge_b1 : n0 ≤ b1 := Nat.le_trans Z0 (Nat.le_of_eq g1.symm)
  have sz_b1 : h0.size ≤ b1 := Nat.le_of_eq g1.symm
  have Z1 : n0 ≤ h1.size := Nat.le_trans Z0 E1.1
  have K1 : Keep h0 h1 [] := (Keep.refl h0 []).ext E1
  have V1 : Arv Z h1 b1 k1 .char (1 : Int32) [(.int (0 : Int32))] (.int (0 : Int32)) := (Arv.new A1 (by decide)).pad (pad_rep [] (.int (0 : Int32)) 1)
  obtain ⟨cl2, Ar2, qk2, Sz2, Ng2, Hs2, Gs2⟩ := id V1
  have hin2 : ¬ ((0 : Int32) < 0 ∨ cl2.slots.size ≤ ((0 : Int32)).toNatClampNeg) := inb_of Sz2 ⟨by decide, by decide⟩
  obtain ⟨T3, h3, X3, e3, W3, st3⟩ := stC X1 hx hZ e1 Ar2 (j := (0 : Int32)) hin2 (g := (mkF m 41 #[iv p0, iv p1, iv p2, iv p3, iv p4, iv 1, iv (own_c p1), iv (own_c p2), iv (own_c p3), iv (own_c p4), rv b1, .unset, .unset] [(.int (own_c p1)), (.int 0), (.ref b1)])) rfl rfl (hb hby at_41)
  have N3 := Fr.snoc X3 N0 ge_b1
  have Z3 : n0 ≤ h3.size := Nat.le_trans Z1 (Nat.le_of_eq W3.size.symm)
  have K3 : Keep h0 h3 [] := K1.wr W3 (Or.inr sz_b1)
  rw [own_nc] at W3
  have V3 : Arv Z h3 b1 k1 .char (1 : Int32) [(.int (own_c p1))] (.int (0 : Int32)) := Arv.set Ar2 qk2 Sz2 Ng2 Hs2 Gs2 (own_fc _) W3 0 rfl (Nat.le_of_ble_eq_true rfl)
  obtain ⟨T4, h4, X4, e4, E4, A4, D4, -, st4⟩ := newO X3 hx hZ hown (hw _ (own_w 2 rfl)) (hw _ (own_w 3 rfl)) (hw _ (own_w 4 rfl)) e3 (g := (mkF m 78 #[iv p0, iv p1, iv p2, iv p3, iv p4, iv 1, iv (own_c p1), iv (own_c p2), iv (own_c p3), iv (own_c p4), rv b1, .unset, .unset] [])) rfl (hb hby at_78) (by decide) (by decide)
  obtain ⟨b4, g4⟩ : ∃ z, z = h3.size := ⟨_, rfl⟩
  rw [← g4] at A4 D4 st4
  have ne_b1_b4 : b1 ≠ b4 := Nat.ne_of_lt (Nat.lt_of_lt_of_le V3.lt (Nat.le_of_eq g4.symm))
  have ge_b4 : n0 ≤ b4 := Nat.le_trans Z3 (Nat.le_of_eq g4.symm)
  have sz_b4 : h0.size ≤ b4 := Nat.le_trans K3.1 (Nat.le_of_eq g4.symm)
  have Z4 : n0 ≤ h4.size := Nat.le_trans Z3 E4.1
  have K4 : Keep h0 h4 [] := K3.ext E4
  have F4_value : Fld Z h4 b4 "java/lang/String" "value" "[B" .null := D4 (Or.inr (hw _ (own_w 17 rfl))) (ty := (.array .byte)) (by decide)
  have F4_coder : Fld Z h4 b4 "java/lang/String" "coder" "B" (.int 0) := D4 (Or.inr (hw _ (own_w 18 rfl))) (ty := .byte) (by decide)
  have f5 := (V3.ext E4)
  have f6 := (((hS.ext E1).wr W3).ext E4)
  have f7 := (((sA.ext E1).wr W3).ext E4)
  have f8 := (((sH.ext E1).wr W3).ext E4)
  have f9 := (((sL.ext E1).wr W3).ext E4)
  obtain ⟨_, T10, Lc10, X10, hQ10, st10⟩ := own_special (W := 1) (y := mN3) X4 hx hZ rfl hown (hw _ (own_w 5 rfl)) (hw _ (own_w 6 rfl)) (hw _ (own_w 7 rfl)) (hw _ (own_w 4 rfl)) (by decide) (rmSi2_1 l Z av0 hw [] b4 b1 k1 wC (own_c p1) h4 n0 Z4 A4 F4_value F4_coder ge_b4 f5 f6 hw0 (own_cr p1) f7 f8 f9) (by decide) (by decide) (g := (mkF m 84 #[iv p0, iv p1, iv p2, iv p3, iv p4, iv 1, iv (own_c p1), iv (own_c p2), iv (own_c p3), iv (own_c p4), rv b1, .unset, .unset] [(.ref b1), (.ref b4), (.ref b4)])) rfl (by rw [hml]; rfl) (a := b4) (argsL := [(.ref b1)]) (rest := [(.ref b4)]) (lenOf pd__C_V rfl) rfl (hb hby at_84) rfl e4 (by decide : 2 + 2 ≤ _) (by decide : 5 + 3 ≤ _)
  obtain ⟨rfl, N10q, K10, St10⟩ := hQ10
  have N10 := Fr.app N3 N10q
  have e10 : T10.heap = T10.heap := rfl
  have Zk10 : n0 ≤ T10.heap.size := Nat.le_trans Z4 K10.1
  have Kk10 : Keep h0 T10.heap [] := K4.trans K10 (allS (Or.inr sz_b4) all0)
  obtain ⟨_, T11, Lc11, X11, hQ11, st11⟩ := own_callS (W := 0) (y := mN1) X10 hx hZ hown (hw _ (own_w 48 rfl)) (hw _ (own_w 49 rfl)) (hw _ (own_w 50 rfl)) (hw _ (own_w 51 rfl)) (by decide) (rmA l Z av0 hw [] (own_c p1) T10.heap n0 Zk10 ) (by decide) (by decide) (g := (mkF m 97 #[iv p0, iv p1, iv p2, iv p3, iv p4, iv 1, iv (own_c p1), iv (own_c p2), iv (own_c p3), iv (own_c p4), rv b1, rv b4, .unset] [(.int (own_c p1))])) rfl (by rw [hml]; rfl) (argsL := [(.int (own_c p1))]) (rest := []) (lenOf pd__C_Z rfl) rfl (hb hby at_97) rfl e10 (by decide : 4 + 0 ≤ _) (by decide : 8 + 0 ≤ _)
  obtain ⟨rfl, N11q, hh11⟩ := hQ11
  have N11 := Fr.app N10 N11q
  have e11 : T11.heap = T10.heap := hh11
  have S12 : ∀ t, oS p e below T11 (mkF m 100 #[iv p0, iv p1, iv p2, iv p3, iv p4, iv 1, iv (own_c p1), iv (own_c p2), iv (own_c p3), iv (own_c p4), rv b1, rv b4, .unset] [(.int (own_al (own_c p1)))]) t → oS p e below s₁ (mkF m 0 #[iv p0, iv p1, iv p2, iv p3, iv p4, .unset, .unset, .unset, .unset, .unset, .unset, .unset, .unset] []) t := fun t k => id (by
    show oS p e below s₁ (mkF m 0 #[iv p0, iv p1, iv p2, iv p3, iv p4, .unset, .unset, .unset, .unset, .unset, .unset, .unset, .unset] []) _
    refine XS.iloadN X0.here hx rfl (hb hby at_0) rfl ?_
    refine X0.ldcI hx hown (mvT hZ (hw _ (own_w 0 rfl))) rfl (hb hby at_1) ?_
    refine XS.iand X0.here hx rfl (hb hby at_3) rfl ?_
    refine XT.iconstV X0.here hx rfl (5 : Int32) (hb hby at_4) (by decide) ?_
    refine XS.irem X0.here hx rfl (hb hby at_5) rfl (by decide) ?_
    show oS p e below s₁ (mkF m 6 #[iv p0, iv p1, iv p2, iv p3, iv p4, .unset, .unset, .unset, .unset, .unset, .unset, .unset, .unset] [(.int ((p0 &&& (2147483647 : Int32)) - ((p0 &&& (2147483647 : Int32)) / (5 : Int32)) * (5 : Int32)))]) _
    show Steps p.tables e below (s₁.setTop (mkF m 6 #[iv p0, iv p1, iv p2, iv p3, iv p4, .unset, .unset, .unset, .unset, .unset, .unset, .unset, .unset] [(.int (own_P p0 (5 : Int32)))])) _
    rw [hk]
    show oS p e below s₁ (mkF m 6 #[iv p0, iv p1, iv p2, iv p3, iv p4, .unset, .unset, .unset, .unset, .unset, .unset, .unset, .unset] [(.int 1)]) _
    refine XS.istore X0.here hx rfl (hb hby at_6) rfl (l' := #[iv p0, iv p1, iv p2, iv p3, iv p4, iv 1, .unset, .unset, .unset, .unset, .unset, .unset, .unset]) rfl ?_
    refine XS.iloadN X0.here hx rfl (hb hby at_8) rfl ?_
    refine XT.i2c X0.here hx rfl (hb hby at_9) rfl ?_
    show oS p e below s₁ (mkF m 10 #[iv p0, iv p1, iv p2, iv p3, iv p4, iv 1, .unset, .unset, .unset, .unset, .unset, .unset, .unset] [(.int (p1).toUInt32.toUInt16.toUInt32.toInt32)]) _
    skip
    show oS p e below s₁ (mkF m 10 #[iv p0, iv p1, iv p2, iv p3, iv p4, iv 1, .unset, .unset, .unset, .unset, .unset, .unset, .unset] [(.int (own_c p1))]) _
    refine XS.istore X0.here hx rfl (hb hby at_10) rfl (l' := #[iv p0, iv p1, iv p2, iv p3, iv p4, iv 1, iv (own_c p1), .unset, .unset, .unset, .unset, .unset, .unset]) rfl ?_
    refine XS.iloadN X0.here hx rfl (hb hby at_12) rfl ?_
    refine XT.i2c X0.here hx rfl (hb hby at_13) rfl ?_
    show oS p e below s₁ (mkF m 14 #[iv p0, iv p1, iv p2, iv p3, iv p4, iv 1, iv (own_c p1), .unset, .unset, .unset, .unset, .unset, .unset] [(.int (p2).toUInt32.toUInt16.toUInt32.toInt32)]) _
    skip
    show oS p e below s₁ (mkF m 14 #[iv p0, iv p1, iv p2, iv p3, iv p4, iv 1, iv (own_c p1), .unset, .unset, .unset, .unset, .unset, .unset] [(.int (own_c p2))]) _
    refine XS.istore X0.here hx rfl (hb hby at_14) rfl (l' := #[iv p0, iv p1, iv p2, iv p3, iv p4, iv 1, iv (own_c p1), iv (own_c p2), .unset, .unset, .unset, .unset, .unset]) rfl ?_
    refine XS.iloadN X0.here hx rfl (hb hby at_16) rfl ?_
    refine XT.i2c X0.here hx rfl (hb hby at_17) rfl ?_
    show oS p e below s₁ (mkF m 18 #[iv p0, iv p1, iv p2, iv p3, iv p4, iv 1, iv (own_c p1), iv (own_c p2), .unset, .unset, .unset, .unset, .unset] [(.int (p3).toUInt32.toUInt16.toUInt32.toInt32)]) _
    skip
    show oS p e below s₁ (mkF m 18 #[iv p0, iv p1, iv p2, iv p3, iv p4, iv 1, iv (own_c p1), iv (own_c p2), .unset, .unset, .unset, .unset, .unset] [(.int (own_c p3))]) _
    refine XS.istore X0.here hx rfl (hb hby at_18) rfl (l' := #[iv p0, iv p1, iv p2, iv p3, iv p4, iv 1, iv (own_c p1), iv (own_c p2), iv (own_c p3), .unset, .unset, .unset, .unset]) rfl ?_
    refine XS.iload X0.here hx rfl (hb hby at_20) rfl ?_
    show oS p e below s₁ (mkF m 22 #[iv p0, iv p1, iv p2, iv p3, iv p4, iv 1, iv (own_c p1), iv (own_c p2), iv (own_c p3), .unset, .unset, .unset, .unset] [(.int p4)]) _
    refine XT.i2c X0.here hx rfl (hb hby at_22) rfl ?_
    show oS p e below s₁ (mkF m 23 #[iv p0, iv p1, iv p2, iv p3, iv p4, iv 1, iv (own_c p1), iv (own_c p2), iv (own_c p3), .unset, .unset, .unset, .unset] [(.int (p4).toUInt32.toUInt16.toUInt32.toInt32)]) _
    skip
    show oS p e below s₁ (mkF m 23 #[iv p0, iv p1, iv p2, iv p3, iv p4, iv 1, iv (own_c p1), iv (own_c p2), iv (own_c p3), .unset, .unset, .unset, .unset] [(.int (own_c p4))]) _
    refine XS.istore X0.here hx rfl (hb hby at_23) rfl (l' := #[iv p0, iv p1, iv p2, iv p3, iv p4, iv 1, iv (own_c p1), iv (own_c p2), iv (own_c p3), iv (own_c p4), .unset, .unset, .unset]) rfl ?_
    refine XS.iload X0.here hx rfl (hb hby at_25) rfl ?_
    refine st1 _ ?_
    refine XS.astore X1.here hx rfl (hb hby at_29) rfl rfl (l' := #[iv p0, iv p1, iv p2, iv p3, iv p4, iv 1, iv (own_c p1), iv (own_c p2), iv (own_c p3), iv (own_c p4), rv b1, .unset, .unset]) rfl ?_
    refine XS.iload X1.here hx rfl (hb hby at_31) rfl ?_
    refine XS.ifNo X1.here hx rfl (hb hby at_33) rfl (XT.i0_le_f (by decide)) ?_
    refine XS.aload X1.here hx rfl (hb hby at_36) rfl rfl ?_
    refine XT.iconstV X1.here hx rfl (0 : Int32) (hb hby at_38) (by decide) ?_
    refine XS.iload X1.here hx rfl (hb hby at_39) rfl ?_
    refine st3 _ ?_
    refine XS.iload X3.here hx rfl (hb hby at_42) rfl ?_
    refine XT.iconstV X3.here hx rfl (1 : Int32) (hb hby at_44) (by decide) ?_
    refine XS.icmpYes X3.here hx rfl (pc0 := 45) (pc' := 54) rfl (hb hby at_45) rfl (XT.ii_le_t (by decide)) (by decide) (by decide) ?_
    refine XS.iload X3.here hx rfl (hb hby at_54) rfl ?_
    refine XT.iconstV X3.here hx rfl (2 : Int32) (hb hby at_56) (by decide) ?_
    refine XS.icmpYes X3.here hx rfl (pc0 := 57) (pc' := 66) rfl (hb hby at_57) rfl (XT.ii_le_t (by decide)) (by decide) (by decide) ?_
    refine XS.iload X3.here hx rfl (hb hby at_66) rfl ?_
    refine XT.iconstV X3.here hx rfl (3 : Int32) (hb hby at_68) (by decide) ?_
    show oS p e below T3 (mkF m 69 #[iv p0, iv p1, iv p2, iv p3, iv p4, iv 1, iv (own_c p1), iv (own_c p2), iv (own_c p3), iv (own_c p4), rv b1, .unset, .unset] [(.int 3), (.int 1)]) _
    refine XS.icmpYes X3.here hx rfl (pc0 := 69) (pc' := 78) rfl (hb hby at_69) rfl (XT.ii_le_t (by decide)) (by decide) (by decide) ?_
    refine st4 _ ?_
    refine XS.dup X4.here hx rfl (hb hby at_81) rfl rfl ?_
    refine XS.aload X4.here hx rfl (hb hby at_82) rfl rfl ?_
    refine st10 _ ?_
    refine XS.astore X10.here hx rfl (hb hby at_87) rfl rfl (l' := #[iv p0, iv p1, iv p2, iv p3, iv p4, iv 1, iv (own_c p1), iv (own_c p2), iv (own_c p3), iv (own_c p4), rv b1, rv b4, .unset]) rfl ?_
    refine XS.iload X10.here hx rfl (hb hby at_89) rfl ?_
    refine XT.iconstV X10.here hx rfl (1 : Int32) (hb hby at_91) (by decide) ?_
    refine XS.icmpNo X10.here hx rfl (hb hby at_92) rfl (XT.ii_lt_f (by decide)) ?_
    refine XS.iload X10.here hx rfl (hb hby at_95) rfl ?_
    refine st11 _ ?_
    exact k)
  by_cases hc100_13 : (own_al (own_c p1)) = (0 : Int32)
  · have f14 := (A4.keep K10)
    have f15 := (own_stak f6 K10 (allS (own_exns A4) all0))
    have f16 := (own_stak (((hF.ext E1).wr W3).ext E4) K10 (allS (own_exns A4) all0))
    have f17 := (own_stak f7 K10 (allS (own_exns A4) all0))
    have f18 := (own_stak f8 K10 (allS (own_exns A4) all0))
    have f19 := (own_stak f9 K10 (allS (own_exns A4) all0))
    obtain ⟨_, T20, Lc20, X20, hQ20, st20⟩ := own_callS (W := 0) (y := mN6) X11 hx hZ hown (hw _ (own_w 23 rfl)) (hw _ (own_w 24 rfl)) (hw _ (own_w 25 rfl)) (hw _ (own_w 26 rfl)) (by decide) (rmNs_1 l Z av0 hw [] b4 wC fm (own_c p1) T10.heap n0 Zk10 f14 St10 f15 hw0 hfm f16 f17 f18 f19 (own_cr p1)) (by decide) (by decide) (g := (mkF m 154 #[iv p0, iv p1, iv p2, iv p3, iv p4, iv 1, iv (own_c p1), iv (own_c p2), iv (own_c p3), iv (own_c p4), rv b1, rv b4, iv 0] [(.ref b4)])) rfl (by rw [hml]; rfl) (argsL := [(.ref b4)]) (rest := []) (lenOf pd__Ljava_lang_String_Z rfl) rfl (hb hby at_154) rfl e11 (by decide : 4 + 0 ≤ _) (by decide : 8 + 0 ≤ _)
    obtain ⟨rfl, N20q, hh20⟩ := hQ20
    have N20 := Fr.app N11 N20q
    have e20 : T20.heap = T10.heap := hh20
    have S21 : ∀ t, oS p e below T20 (mkF m 167 #[iv p0, iv p1, iv p2, iv p3, iv p4, iv 1, iv (own_c p1), iv (own_c p2), iv (own_c p3), iv (own_c p4), rv b1, rv b4, iv 0] [(.int 1)]) t → oS p e below s₁ (mkF m 0 #[iv p0, iv p1, iv p2, iv p3, iv p4, .unset, .unset, .unset, .unset, .unset, .unset, .unset, .unset] []) t := fun t k => S12 t (by
      show oS p e below T11 (mkF m 100 #[iv p0, iv p1, iv p2, iv p3, iv p4, iv 1, iv (own_c p1), iv (own_c p2), iv (own_c p3), iv (own_c p4), rv b1, rv b4, .unset] [(.int (own_al (own_c p1)))]) _
      refine XS.ifYes X11.here hx rfl (pc0 := 100) (pc' := 149) rfl (hb hby at_100) rfl (XT.i0_eq_t hc100_13) (by decide) (by decide) ?_
      refine XT.iconstV X11.here hx rfl (0 : Int32) (hb hby at_149) (by decide) ?_
      refine XS.istore X11.here hx rfl (hb hby at_150) rfl (l' := #[iv p0, iv p1, iv p2, iv p3, iv p4, iv 1, iv (own_c p1), iv (own_c p2), iv (own_c p3), iv (own_c p4), rv b1, rv b4, iv 0]) rfl ?_
      refine XS.aload X11.here hx rfl (hb hby at_152) rfl rfl ?_
      refine st20 _ ?_
      refine XS.iload X20.here hx rfl (hb hby at_157) rfl ?_
      refine XS.icmpNo X20.here hx rfl (hb hby at_159) rfl (XT.ii_ne_f (by simp [own_step, own_end, hc100_13])) ?_
      refine XT.iconstV X20.here hx rfl (1 : Int32) (hb hby at_162) (by decide) ?_
      refine XS.goto X20.here hx rfl (pc0 := 163) (pc' := 167) rfl (hb hby at_163) (by decide) (by decide) ?_
      show oS p e below T20 (mkF m 167 #[iv p0, iv p1, iv p2, iv p3, iv p4, iv 1, iv (own_c p1), iv (own_c p2), iv (own_c p3), iv (own_c p4), rv b1, rv b4, iv 0] [(.int 1)]) _
      exact k)
    obtain ⟨fs, hr, hrun, hended, hW, hsame⟩ := X20.leave (v := some (.int 1)) (fun h => by rw [Bd.returns] at h; cases h)
    refine ⟨_, _, pre0 _ (S21 _ ?_), hrun, hended, _, _, rfl, ?_, ReturnedEndW.of_narrow ⟨_, rfl⟩ hW (hsame.mono (by decide) (by decide))⟩
    · exact retN X20 hx (t := .boolean) Bd.returns (by simp) (hb hby at_167) hr
    · show Qrm0 Z p0 p1 p2 p3 p4 wC fm h0 n0 _ T20.heap _
      rw [e20]
      exact ⟨rfl, N20⟩
  · have f22 := (A4.keep K10)
    have f23 := (own_stak f6 K10 (allS (own_exns A4) all0))
    have f24 := (own_stak (((hF.ext E1).wr W3).ext E4) K10 (allS (own_exns A4) all0))
    have f25 := (own_stak f7 K10 (allS (own_exns A4) all0))
    have f26 := (own_stak f8 K10 (allS (own_exns A4) all0))
    have f27 := (own_stak f9 K10 (allS (own_exns A4) all0))
    obtain ⟨_, T28, Lc28, X28, hQ28, st28⟩ := own_callS (W := 0) (y := mN6) X11 hx hZ hown (hw _ (own_w 23 rfl)) (hw _ (own_w 24 rfl)) (hw _ (own_w 25 rfl)) (hw _ (own_w 26 rfl)) (by decide) (rmNs_1 l Z av0 hw [] b4 wC fm (own_c p1) T10.heap n0 Zk10 f22 St10 f23 hw0 hfm f24 f25 f26 f27 (own_cr p1)) (by decide) (by decide) (g := (mkF m 154 #[iv p0, iv p1, iv p2, iv p3, iv p4, iv 1, iv (own_c p1), iv (own_c p2), iv (own_c p3), iv (own_c p4), rv b1, rv b4, iv 1] [(.ref b4)])) rfl (by rw [hml]; rfl) (argsL := [(.ref b4)]) (rest := []) (lenOf pd__Ljava_lang_String_Z rfl) rfl (hb hby at_154) rfl e11 (by decide : 4 + 0 ≤ _) (by decide : 8 + 0 ≤ _)
    obtain ⟨rfl, N28q, hh28⟩ := hQ28
    have N28 := Fr.app N11 N28q
    have e28 : T28.heap = T10.heap := hh28
    have S29 : ∀ t, oS p e below T28 (mkF m 167 #[iv p0, iv p1, iv p2, iv p3, iv p4, iv 1, iv (own_c p1), iv (own_c p2), iv (own_c p3), iv (own_c p4), rv b1, rv b4, iv 1] [(.int 1)]) t → oS p e below s₁ (mkF m 0 #[iv p0, iv p1, iv p2, iv p3, iv p4, .unset, .unset, .unset, .unset, .unset, .unset, .unset, .unset] []) t := fun t k => S12 t (by
      show oS p e below T11 (mkF m 100 #[iv p0, iv p1, iv p2, iv p3, iv p4, iv 1, iv (own_c p1), iv (own_c p2), iv (own_c p3), iv (own_c p4), rv b1, rv b4, .unset] [(.int (own_al (own_c p1)))]) _
      refine XS.ifNo X11.here hx rfl (hb hby at_100) rfl (XT.i0_eq_f hc100_13) ?_
      refine XS.iload X11.here hx rfl (hb hby at_103) rfl ?_
      refine XT.iconstV X11.here hx rfl (2 : Int32) (hb hby at_105) (by decide) ?_
      refine XS.icmpYes X11.here hx rfl (pc0 := 106) (pc' := 117) rfl (hb hby at_106) rfl (XT.ii_lt_t (by decide)) (by decide) (by decide) ?_
      refine XS.iload X11.here hx rfl (hb hby at_117) rfl ?_
      refine XT.iconstV X11.here hx rfl (3 : Int32) (hb hby at_119) (by decide) ?_
      refine XS.icmpYes X11.here hx rfl (pc0 := 120) (pc' := 131) rfl (hb hby at_120) rfl (XT.ii_lt_t (by decide)) (by decide) (by decide) ?_
      refine XS.iload X11.here hx rfl (hb hby at_131) rfl ?_
      refine XT.iconstV X11.here hx rfl (4 : Int32) (hb hby at_133) (by decide) ?_
      show oS p e below T11 (mkF m 134 #[iv p0, iv p1, iv p2, iv p3, iv p4, iv 1, iv (own_c p1), iv (own_c p2), iv (own_c p3), iv (own_c p4), rv b1, rv b4, .unset] [(.int 4), (.int 1)]) _
      refine XS.icmpYes X11.here hx rfl (pc0 := 134) (pc' := 145) rfl (hb hby at_134) rfl (XT.ii_lt_t (by decide)) (by decide) (by decide) ?_
      refine XT.iconstV X11.here hx rfl (1 : Int32) (hb hby at_145) (by decide) ?_
      refine XS.goto X11.here hx rfl (pc0 := 146) (pc' := 150) rfl (hb hby at_146) (by decide) (by decide) ?_
      refine XS.istore X11.here hx rfl (hb hby at_150) rfl (l' := #[iv p0, iv p1, iv p2, iv p3, iv p4, iv 1, iv (own_c p1), iv (own_c p2), iv (own_c p3), iv (own_c p4), rv b1, rv b4, iv 1]) rfl ?_
      refine XS.aload X11.here hx rfl (hb hby at_152) rfl rfl ?_
      refine st28 _ ?_
      refine XS.iload X28.here hx rfl (hb hby at_157) rfl ?_
      refine XS.icmpNo X28.here hx rfl (hb hby at_159) rfl (XT.ii_ne_f (by simp [own_step, own_end, hc100_13])) ?_
      refine XT.iconstV X28.here hx rfl (1 : Int32) (hb hby at_162) (by decide) ?_
      refine XS.goto X28.here hx rfl (pc0 := 163) (pc' := 167) rfl (hb hby at_163) (by decide) (by decide) ?_
      exact k)
    obtain ⟨fs, hr, hrun, hended, hW, hsame⟩ := X28.leave (v := some (.int 1)) (fun h => by rw [Bd.returns] at h; cases h)
    refine ⟨_, _, pre0 _ (S29 _ ?_), hrun, hended, _, _, rfl, ?_, ReturnedEndW.of_narrow ⟨_, rfl⟩ hW (hsame.mono (by decide) (by decide))⟩
    · exact retN X28 hx (t := .boolean) Bd.returns (by simp) (hb hby at_167) hr
    · show Qrm0 Z p0 p1 p2 p3 p4 wC fm h0 n0 _ T28.heap _
      rw [e28]
      exact ⟨rfl, N28⟩
def own_St2 (Z : State) (h : Heap) (a : Addr) (c0 : Int32) (c1 : Int32) : Prop := (∃ (b : Addr) (k : ClassId), Fld Z h a "java/lang/String" "value" "[B" (.ref b) ∧ Fld Z h a "java/lang/String" "coder" "B" (.int (0 : Int32)) ∧ Arv Z h b k .byte (2 : Int32) [(.int (own_b c0)), (.int (own_b c1))] (.int (0 : Int32)) ∧ ¬ (255 : Int32) < c0 ∧ ¬ (255 : Int32) < c1) ∨ (∃ (b : Addr) (k : ClassId), Fld Z h a "java/lang/String" "value" "[B" (.ref b) ∧ Fld Z h a "java/lang/String" "coder" "B" (.int (1 : Int32)) ∧ Arv Z h b k .byte (4 : Int32) [(.int (own_lo c0)), (.int (own_hi c0)), (.int (own_lo c1)), (.int (own_hi c1))] (.int (0 : Int32)))
theorem own_St2_ext {Z : State} {h h' : Heap} {a o : Addr} {c0 : Int32} {c1 : Int32} (S : own_St2 Z h a c0 c1) (E : Ext h h') : own_St2 Z h' a c0 c1 := by
  rcases S with ⟨b, k, f, g, A, r0, r1⟩ | ⟨b, k, f, g, A⟩
  · exact Or.inl ⟨b, k, f.ext E, g.ext E, A.ext E, r0, r1⟩
  · exact Or.inr ⟨b, k, f.ext E, g.ext E, A.ext E⟩
theorem own_St2_wr {Z : State} {h h' : Heap} {a o : Addr} {c0 : Int32} {c1 : Int32} (S : own_St2 Z h a c0 c1) {sl : Nat} {v : Value} (W : Wr h h' o sl v) (hn : a ≠ o) (hb : ∀ {b k z vs d}, Arv Z h b k .byte z vs d → b ≠ o) : own_St2 Z h' a c0 c1 := by
  rcases S with ⟨b, k, f, g, A, r0, r1⟩ | ⟨b, k, f, g, A⟩
  · exact Or.inl ⟨b, k, f.other W (Or.inl hn), g.other W (Or.inl hn), A.other W (hb A), r0, r1⟩
  · exact Or.inr ⟨b, k, f.other W (Or.inl hn), g.other W (Or.inl hn), A.other W (hb A)⟩
theorem own_St2_k0 {Z : State} {h h' : Heap} {a o : Addr} {c0 : Int32} {c1 : Int32} (S : own_St2 Z h a c0 c1) (K : Keep h h' []) : own_St2 Z h' a c0 c1 := by
  rcases S with ⟨b, k, f, g, A, r0, r1⟩ | ⟨b, k, f, g, A⟩
  · exact Or.inl ⟨b, k, f.keep K nin0, g.keep K nin0, A.keep K nin0, r0, r1⟩
  · exact Or.inr ⟨b, k, f.keep K nin0, g.keep K nin0, A.keep K nin0⟩
theorem own_St2_k1 {Z : State} {h h' : Heap} {a o : Addr} {c0 : Int32} {c1 : Int32} (S : own_St2 Z h a c0 c1) (K : Keep h h' [o]) (hn : a ≠ o) (hb : ∀ {b k z vs d}, Arv Z h b k .byte z vs d → b ≠ o) : own_St2 Z h' a c0 c1 := by
  rcases S with ⟨b, k, f, g, A, r0, r1⟩ | ⟨b, k, f, g, A⟩
  · exact Or.inl ⟨b, k, f.keep K (ninS hn nin0), g.keep K (ninS hn nin0), A.keep K (ninS (hb A) nin0), r0, r1⟩
  · exact Or.inr ⟨b, k, f.keep K (ninS hn nin0), g.keep K (ninS hn nin0), A.keep K (ninS (hb A) nin0)⟩
def QrmLen_2_0 (Z : State) (a0 : Addr) (ab : Addr) (kb : ClassId) (wC : Int32) (c0 : Int32) (c1 : Int32) (h0 : Heap) (n0 : Nat) (v : Option Value) (h : Heap) (L : List Loc) : Prop := v = some (.int (2 : Int32)) ∧ Fr n0 L ∧ h = h0
set_option maxRecDepth 65536 in
set_option maxHeartbeats 40000000 in
theorem rmLen_2_0 (l : Launch) (Z : State) (av0 : Array Value) (hw : ∀ d ∈ tables_1, d.before av0 Z = true) (ws : List Jvm.Cond) (a0 : Addr) (ab : Addr) (kb : ClassId) (wC : Int32) (c0 : Int32) (c1 : Int32) (h0 : Heap) (n0 : Nat) (Z0 : n0 ≤ h0.size) (hE : Exa Z h0 a0 "java/lang/String") (hV : Fld Z h0 a0 "java/lang/String" "value" "[B" (.ref ab)) (hC : Fld Z h0 a0 "java/lang/String" "coder" "B" (.int (0 : Int32))) (hB : Arv Z h0 ab kb .byte (2 : Int32) [(.int (own_b c0)), (.int (own_b c1))] (.int (0 : Int32))) (hS : Sta Z h0 "java/lang/String" "COMPACT_STRINGS" "Z" (.int wC)) (hw0 : ¬ wC = (0 : Int32)) :
    own_Met l mN5 jdk_42_method_54_code 1 (some .int) ws ({ frames := 1, cells := 0, slots := 0, locals := 13 } : Room) #[(.ref a0)] Z h0 (QrmLen_2_0 Z a0 ab kb wC c0 c1 h0 n0) := by
  refine MetFree.of_bodySF (plainFor_of_name pn_String) hisR ?_
  intro p e s m args below meth c s₁ Bd hml0 hP hK
  obtain ⟨rfl, hZ, hh⟩ := hP
  have hml : c.maxLocals = 1 := hml0
  obtain ⟨hx, hby, hown, hnm, X0, e0⟩ := own_start Bd hml0 hh
  have N0 := Fr.nil n0
  have pre0 : ∀ t, oS p e below s₁ (mkF m 0 #[rv a0] []) t → Steps p.tables e below (s₁.setTop (entryFrame m #[(.ref a0)] 1)) t := fun t k => castTop (by first | (simp [entryFrame, mkF, argsToLocals, Value.category]; done) | rfl) k
  obtain ⟨T1, X1, e1, st1⟩ := getF X0 hx hZ hown (host := "") (Or.inl (hw _ (own_w 21 rfl))) Via.refl e0 hV (g := (mkF m 1 #[rv a0] [(.ref a0)])) rfl rfl (hb hby d5_1)
  obtain ⟨cl2, Ar2, qk2, Sz2, Ng2, Hs2, Gs2⟩ := id hB
  obtain ⟨_, T3, Lc3, X3, hQ3, st3⟩ := own_virtual (W := 1) (y := mN4) (z := mN4) X1 hx hZ hown (hw _ (own_w 32 rfl)) (hw _ (own_w 33 rfl)) (notFace_of_selects (args := #[]) (mvT hZ (hw _ (own_w 35 rfl)))) (hw _ (own_w 35 rfl)) (hw _ (own_w 34 rfl)) (hw _ (own_w 36 rfl)) (hw _ (own_w 4 rfl)) (by decide) (rmCoder_0 l Z av0 hw [] a0 wC h0 n0 Z0 hS hw0 hC) (by decide) (by decide) hE (g := (mkF m 6 #[rv a0] [(.ref a0), (.int 2)])) rfl (by rw [hml]; rfl) (argsL := []) (rest := [(.int 2)]) (lenOf pd__B rfl) rfl (hb hby d5_6) rfl e1 (by decide : 0 + 0 ≤ _) (by decide : 0 + 0 ≤ _)
  obtain ⟨rfl, N3q, hh3⟩ := hQ3
  have N3 := Fr.app N0 N3q
  have e3 : T3.heap = h0 := hh3
  have S4 : ∀ t, oS p e below T3 (mkF m 10 #[rv a0] [(.int 2)]) t → oS p e below s₁ (mkF m 0 #[rv a0] []) t := fun t k => id (by
    show oS p e below s₁ (mkF m 0 #[rv a0] []) _
    refine XS.aloadN X0.here hx rfl (hb hby d5_0) rfl rfl ?_
    refine st1 _ ?_
    refine X1.arraylength hx (by rw [e1]; exact Ar2.1) (State.isArrayOf_alike hZ.alike Ar2.2.1) (g := (mkF m 4 #[rv a0] [(.ref ab)])) rfl rfl (hb hby d5_4) _ ?_
    rw [len_of Sz2 Ng2]
    refine XS.aloadN X1.here hx rfl (hb hby d5_5) rfl rfl ?_
    refine st3 _ ?_
    refine XT.ishr X3.here hx rfl (hb hby d5_9) rfl ?_
    exact k)
  obtain ⟨fs, hr, hrun, hended, hW, hsame⟩ := X3.leave (v := some (.int 2)) (fun h => by rw [Bd.returns] at h; cases h)
  refine ⟨_, _, pre0 _ (S4 _ ?_), hrun, hended, _, _, rfl, ?_, ⟨_, rfl⟩, hW, hsame.mono (by decide) (by decide)⟩
  · exact retI X3 hx Bd.returns (hb hby d5_10) hr
  · show QrmLen_2_0 Z a0 ab kb wC c0 c1 h0 n0 _ T3.heap _
    rw [e3]
    exact ⟨congrArg (fun z => some (Value.int z)) (by decide), N3, rfl⟩
def QrmLen_2_1 (Z : State) (a0 : Addr) (ab : Addr) (kb : ClassId) (wC : Int32) (c0 : Int32) (c1 : Int32) (h0 : Heap) (n0 : Nat) (v : Option Value) (h : Heap) (L : List Loc) : Prop := v = some (.int (2 : Int32)) ∧ Fr n0 L ∧ h = h0
set_option maxRecDepth 65536 in
set_option maxHeartbeats 40000000 in
theorem rmLen_2_1 (l : Launch) (Z : State) (av0 : Array Value) (hw : ∀ d ∈ tables_1, d.before av0 Z = true) (ws : List Jvm.Cond) (a0 : Addr) (ab : Addr) (kb : ClassId) (wC : Int32) (c0 : Int32) (c1 : Int32) (h0 : Heap) (n0 : Nat) (Z0 : n0 ≤ h0.size) (hE : Exa Z h0 a0 "java/lang/String") (hV : Fld Z h0 a0 "java/lang/String" "value" "[B" (.ref ab)) (hC : Fld Z h0 a0 "java/lang/String" "coder" "B" (.int (1 : Int32))) (hB : Arv Z h0 ab kb .byte (4 : Int32) [(.int (own_lo c0)), (.int (own_hi c0)), (.int (own_lo c1)), (.int (own_hi c1))] (.int (0 : Int32))) (hS : Sta Z h0 "java/lang/String" "COMPACT_STRINGS" "Z" (.int wC)) (hw0 : ¬ wC = (0 : Int32)) :
    own_Met l mN5 jdk_42_method_54_code 1 (some .int) ws ({ frames := 1, cells := 0, slots := 0, locals := 13 } : Room) #[(.ref a0)] Z h0 (QrmLen_2_1 Z a0 ab kb wC c0 c1 h0 n0) := by
  refine MetFree.of_bodySF (plainFor_of_name pn_String) hisR ?_
  intro p e s m args below meth c s₁ Bd hml0 hP hK
  obtain ⟨rfl, hZ, hh⟩ := hP
  have hml : c.maxLocals = 1 := hml0
  obtain ⟨hx, hby, hown, hnm, X0, e0⟩ := own_start Bd hml0 hh
  have N0 := Fr.nil n0
  have pre0 : ∀ t, oS p e below s₁ (mkF m 0 #[rv a0] []) t → Steps p.tables e below (s₁.setTop (entryFrame m #[(.ref a0)] 1)) t := fun t k => castTop (by first | (simp [entryFrame, mkF, argsToLocals, Value.category]; done) | rfl) k
  obtain ⟨T1, X1, e1, st1⟩ := getF X0 hx hZ hown (host := "") (Or.inl (hw _ (own_w 21 rfl))) Via.refl e0 hV (g := (mkF m 1 #[rv a0] [(.ref a0)])) rfl rfl (hb hby d5_1)
  obtain ⟨cl2, Ar2, qk2, Sz2, Ng2, Hs2, Gs2⟩ := id hB
  obtain ⟨_, T3, Lc3, X3, hQ3, st3⟩ := own_virtual (W := 1) (y := mN4) (z := mN4) X1 hx hZ hown (hw _ (own_w 32 rfl)) (hw _ (own_w 33 rfl)) (notFace_of_selects (args := #[]) (mvT hZ (hw _ (own_w 35 rfl)))) (hw _ (own_w 35 rfl)) (hw _ (own_w 34 rfl)) (hw _ (own_w 36 rfl)) (hw _ (own_w 4 rfl)) (by decide) (rmCoder_1 l Z av0 hw [] a0 wC h0 n0 Z0 hS hw0 hC) (by decide) (by decide) hE (g := (mkF m 6 #[rv a0] [(.ref a0), (.int 4)])) rfl (by rw [hml]; rfl) (argsL := []) (rest := [(.int 4)]) (lenOf pd__B rfl) rfl (hb hby d5_6) rfl e1 (by decide : 0 + 0 ≤ _) (by decide : 0 + 0 ≤ _)
  obtain ⟨rfl, N3q, hh3⟩ := hQ3
  have N3 := Fr.app N0 N3q
  have e3 : T3.heap = h0 := hh3
  have S4 : ∀ t, oS p e below T3 (mkF m 10 #[rv a0] [(.int 2)]) t → oS p e below s₁ (mkF m 0 #[rv a0] []) t := fun t k => id (by
    show oS p e below s₁ (mkF m 0 #[rv a0] []) _
    refine XS.aloadN X0.here hx rfl (hb hby d5_0) rfl rfl ?_
    refine st1 _ ?_
    refine X1.arraylength hx (by rw [e1]; exact Ar2.1) (State.isArrayOf_alike hZ.alike Ar2.2.1) (g := (mkF m 4 #[rv a0] [(.ref ab)])) rfl rfl (hb hby d5_4) _ ?_
    rw [len_of Sz2 Ng2]
    refine XS.aloadN X1.here hx rfl (hb hby d5_5) rfl rfl ?_
    refine st3 _ ?_
    refine XT.ishr X3.here hx rfl (hb hby d5_9) rfl ?_
    exact k)
  obtain ⟨fs, hr, hrun, hended, hW, hsame⟩ := X3.leave (v := some (.int 2)) (fun h => by rw [Bd.returns] at h; cases h)
  refine ⟨_, _, pre0 _ (S4 _ ?_), hrun, hended, _, _, rfl, ?_, ⟨_, rfl⟩, hW, hsame.mono (by decide) (by decide)⟩
  · exact retI X3 hx Bd.returns (hb hby d5_10) hr
  · show QrmLen_2_1 Z a0 ab kb wC c0 c1 h0 n0 _ T3.heap _
    rw [e3]
    exact ⟨congrArg (fun z => some (Value.int z)) (by decide), N3, rfl⟩
theorem rmLenJ_2 (l : Launch) (Z : State) (av0 : Array Value) (hw : ∀ d ∈ tables_1, d.before av0 Z = true) (ws : List Jvm.Cond) (a0 : Addr) (wC : Int32) (fm : Value) (c0 : Int32) (c1 : Int32) (h0 : Heap) (n0 : Nat) (Z0 : n0 ≤ h0.size) (hE : Exa Z h0 a0 "java/lang/String") (hSt : own_St2 Z h0 a0 c0 c1) (hS : Sta Z h0 "java/lang/String" "COMPACT_STRINGS" "Z" (.int wC)) (hw0 : ¬ wC = (0 : Int32))  :
    own_Met l mN5 jdk_42_method_54_code 1 (some .int) ws ({ frames := 1, cells := 0, slots := 0, locals := 13 } : Room) #[(.ref a0)] Z h0 (fun v h L => v = some (.int (2 : Int32)) ∧ Fr n0 L ∧ h = h0) := by
  rcases hSt with ⟨ab, kb, hV, hC, hB, lt0, lt1⟩ | ⟨ab, kb, hV, hC, hB⟩
  · exact rmLen_2_0 l Z av0 hw ws a0 ab kb wC c0 c1 h0 n0 Z0 hE hV hC hB hS hw0
  · exact rmLen_2_1 l Z av0 hw ws a0 ab kb wC c0 c1 h0 n0 Z0 hE hV hC hB hS hw0
theorem rmChJ_2_0 (l : Launch) (Z : State) (av0 : Array Value) (hw : ∀ d ∈ tables_1, d.before av0 Z = true) (ws : List Jvm.Cond) (a0 : Addr) (wC : Int32) (fm : Value) (c0 : Int32) (c1 : Int32) (h0 : Heap) (n0 : Nat) (Z0 : n0 ≤ h0.size) (hE : Exa Z h0 a0 "java/lang/String") (hSt : own_St2 Z h0 a0 c0 c1) (hS : Sta Z h0 "java/lang/String" "COMPACT_STRINGS" "Z" (.int wC)) (hw0 : ¬ wC = (0 : Int32)) (hfm : fm.isRef = true) (hF : Sta Z h0 "jdk/internal/util/Preconditions" "SIOOBE_FORMATTER" "Ljava/util/function/BiFunction;" fm) (sA : Sta Z h0 "java/lang/StringUTF16" "$assertionsDisabled" "Z" (.int (1 : Int32))) (sH : Sta Z h0 "java/lang/StringUTF16" "HI_BYTE_SHIFT" "I" (.int (0 : Int32))) (sL : Sta Z h0 "java/lang/StringUTF16" "LO_BYTE_SHIFT" "I" (.int (8 : Int32))) (hg : 0 ≤ c0.toInt ∧ c0.toInt < 65536) :
    own_Met l mN14 jdk_42_method_56_code 2 (some .char) ws ({ frames := 4, cells := 0, slots := 0, locals := 53 } : Room) #[(.ref a0), (.int (0 : Int32))] Z h0 (fun v h L => v = some (.int c0) ∧ Fr n0 L ∧ h = h0) := by
  rcases hSt with ⟨ab, kb, hV, hC, hB, lt0, lt1⟩ | ⟨ab, kb, hV, hC, hB⟩
  · exact rmCh0 l Z av0 hw ws a0 ab kb wC (2 : Int32) [(.int (own_b c0)), (.int (own_b c1))] (0 : Int32) fm c0 h0 n0 Z0 hE hV hC hB hS hw0 hfm hF (by decide) (by decide) rfl ⟨hg.1, lt0⟩
  · exact rmCh1 l Z av0 hw ws a0 ab kb wC (4 : Int32) [(.int (own_lo c0)), (.int (own_hi c0)), (.int (own_lo c1)), (.int (own_hi c1))] (0 : Int32) fm c0 h0 n0 Z0 hE hV hC hB hS hw0 hfm hF sA sH sL (by decide) (by decide) (by decide) (by decide) rfl rfl hg
theorem rmChJ_2_1 (l : Launch) (Z : State) (av0 : Array Value) (hw : ∀ d ∈ tables_1, d.before av0 Z = true) (ws : List Jvm.Cond) (a0 : Addr) (wC : Int32) (fm : Value) (c0 : Int32) (c1 : Int32) (h0 : Heap) (n0 : Nat) (Z0 : n0 ≤ h0.size) (hE : Exa Z h0 a0 "java/lang/String") (hSt : own_St2 Z h0 a0 c0 c1) (hS : Sta Z h0 "java/lang/String" "COMPACT_STRINGS" "Z" (.int wC)) (hw0 : ¬ wC = (0 : Int32)) (hfm : fm.isRef = true) (hF : Sta Z h0 "jdk/internal/util/Preconditions" "SIOOBE_FORMATTER" "Ljava/util/function/BiFunction;" fm) (sA : Sta Z h0 "java/lang/StringUTF16" "$assertionsDisabled" "Z" (.int (1 : Int32))) (sH : Sta Z h0 "java/lang/StringUTF16" "HI_BYTE_SHIFT" "I" (.int (0 : Int32))) (sL : Sta Z h0 "java/lang/StringUTF16" "LO_BYTE_SHIFT" "I" (.int (8 : Int32))) (hg : 0 ≤ c1.toInt ∧ c1.toInt < 65536) :
    own_Met l mN14 jdk_42_method_56_code 2 (some .char) ws ({ frames := 4, cells := 0, slots := 0, locals := 53 } : Room) #[(.ref a0), (.int (1 : Int32))] Z h0 (fun v h L => v = some (.int c1) ∧ Fr n0 L ∧ h = h0) := by
  rcases hSt with ⟨ab, kb, hV, hC, hB, lt0, lt1⟩ | ⟨ab, kb, hV, hC, hB⟩
  · exact rmCh0 l Z av0 hw ws a0 ab kb wC (2 : Int32) [(.int (own_b c0)), (.int (own_b c1))] (1 : Int32) fm c1 h0 n0 Z0 hE hV hC hB hS hw0 hfm hF (by decide) (by decide) rfl ⟨hg.1, lt1⟩
  · exact rmCh1 l Z av0 hw ws a0 ab kb wC (4 : Int32) [(.int (own_lo c0)), (.int (own_hi c0)), (.int (own_lo c1)), (.int (own_hi c1))] (1 : Int32) fm c1 h0 n0 Z0 hE hV hC hB hS hw0 hfm hF sA sH sL (by decide) (by decide) (by decide) (by decide) rfl rfl hg
def QrmNs_2 (Z : State) (a0 : Addr) (wC : Int32) (fm : Value) (c0 : Int32) (c1 : Int32) (h0 : Heap) (n0 : Nat) (v : Option Value) (h : Heap) (L : List Loc) : Prop := v = some (.int (own_ns [c0, c1])) ∧ Fr n0 L ∧ h = h0
set_option maxRecDepth 65536 in
set_option maxHeartbeats 40000000 in
theorem rmNs_2 (l : Launch) (Z : State) (av0 : Array Value) (hw : ∀ d ∈ tables_1, d.before av0 Z = true) (ws : List Jvm.Cond) (a0 : Addr) (wC : Int32) (fm : Value) (c0 : Int32) (c1 : Int32) (h0 : Heap) (n0 : Nat) (Z0 : n0 ≤ h0.size) (hE : Exa Z h0 a0 "java/lang/String") (hSt : own_St2 Z h0 a0 c0 c1) (hS : Sta Z h0 "java/lang/String" "COMPACT_STRINGS" "Z" (.int wC)) (hw0 : ¬ wC = (0 : Int32)) (hfm : fm.isRef = true) (hF : Sta Z h0 "jdk/internal/util/Preconditions" "SIOOBE_FORMATTER" "Ljava/util/function/BiFunction;" fm) (sA : Sta Z h0 "java/lang/StringUTF16" "$assertionsDisabled" "Z" (.int (1 : Int32))) (sH : Sta Z h0 "java/lang/StringUTF16" "HI_BYTE_SHIFT" "I" (.int (0 : Int32))) (sL : Sta Z h0 "java/lang/StringUTF16" "LO_BYTE_SHIFT" "I" (.int (8 : Int32))) (hg0 : 0 ≤ c0.toInt ∧ c0.toInt < 65536) (hg1 : 0 ≤ c1.toInt ∧ c1.toInt < 65536) :
    own_Met l mN6 prog_60_method_4_code 4 (some .boolean) ws ({ frames := 5, cells := 0, slots := 0, locals := 66 } : Room) #[(.ref a0)] Z h0 (QrmNs_2 Z a0 wC fm c0 c1 h0 n0) := by
  refine MetFree.of_bodySF (plainFor_of_name pn_XsNames) hisR ?_
  intro p e s m args below meth c s₁ Bd hml0 hP hK
  obtain ⟨rfl, hZ, hh⟩ := hP
  have hml : c.maxLocals = 4 := hml0
  obtain ⟨hx, hby, hown, hnm, X0, e0⟩ := own_start Bd hml0 hh
  have N0 := Fr.nil n0
  have pre0 : ∀ t, oS p e below s₁ (mkF m 0 #[rv a0, .unset, .unset, .unset] []) t → Steps p.tables e below (s₁.setTop (entryFrame m #[(.ref a0)] 4)) t := fun t k => castTop (by first | (simp [entryFrame, mkF, argsToLocals, Value.category]; done) | rfl) k
  obtain ⟨_, T1, Lc1, X1, hQ1, st1⟩ := own_virtual (W := 1) (y := mN5) (z := mN5) X0 hx hZ hown (hw _ (own_w 27 rfl)) (hw _ (own_w 28 rfl)) (notFace_of_selects (args := #[]) (mvT hZ (hw _ (own_w 30 rfl)))) (hw _ (own_w 30 rfl)) (hw _ (own_w 29 rfl)) (hw _ (own_w 31 rfl)) (hw _ (own_w 4 rfl)) (by decide) (rmLenJ_2 l Z av0 hw [] a0 wC fm c0 c1 h0 n0 Z0 hE hSt hS hw0) (by decide) (by decide) hE (g := (mkF m 6 #[rv a0, iv 1, iv 0, .unset] [(.ref a0), (.int 0)])) rfl (by rw [hml]; rfl) (argsL := []) (rest := [(.int 0)]) (lenOf pd__I rfl) rfl (hb hby d4_6) rfl e0 (by decide : 0 + 0 ≤ _) (by decide : 0 + 0 ≤ _)
  obtain ⟨rfl, N1q, hh1⟩ := hQ1
  have N1 := Fr.app N0 N1q
  have e1 : T1.heap = h0 := hh1
  obtain ⟨_, T2, Lc2, X2, hQ2, st2⟩ := own_virtual (W := 0) (y := mN14) (z := mN14) X1 hx hZ hown (hw _ (own_w 52 rfl)) (hw _ (own_w 53 rfl)) (notFace_of_selects (args := #[]) (mvT hZ (hw _ (own_w 55 rfl)))) (hw _ (own_w 55 rfl)) (hw _ (own_w 54 rfl)) (hw _ (own_w 56 rfl)) (hw _ (own_w 4 rfl)) (by decide) (rmChJ_2_0 l Z av0 hw [] a0 wC fm c0 c1 h0 n0 Z0 hE hSt hS hw0 hfm hF sA sH sL hg0) (by decide) (by decide) hE (g := (mkF m 18 #[rv a0, iv 1, iv 0, .unset] [(.int 0), (.ref a0)])) rfl (by rw [hml]; rfl) (argsL := [(.int 0)]) (rest := []) (lenOf pd__I_C rfl) rfl (hb hby d4_18) rfl e1 (by decide : 0 + 0 ≤ _) (by decide : 0 + 0 ≤ _)
  obtain ⟨rfl, N2q, hh2⟩ := hQ2
  have N2 := Fr.app N1 N2q
  have e2 : T2.heap = h0 := hh2
  have S3 : ∀ t, oS p e below T2 (mkF m 25 #[rv a0, iv 1, iv 0, iv c0] [(.int 32), (.int c0)]) t → oS p e below s₁ (mkF m 0 #[rv a0, .unset, .unset, .unset] []) t := fun t k => id (by
    show oS p e below s₁ (mkF m 0 #[rv a0, .unset, .unset, .unset] []) _
    refine XT.iconstV X0.here hx rfl (1 : Int32) (hb hby d4_0) (by decide) ?_
    refine XS.istoreN X0.here hx rfl (hb hby d4_1) rfl (l' := #[rv a0, iv 1, .unset, .unset]) rfl ?_
    refine XT.iconstV X0.here hx rfl (0 : Int32) (hb hby d4_2) (by decide) ?_
    refine XS.istoreN X0.here hx rfl (hb hby d4_3) rfl (l' := #[rv a0, iv 1, iv 0, .unset]) rfl ?_
    refine XS.iloadN X0.here hx rfl (hb hby d4_4) rfl ?_
    refine XS.aloadN X0.here hx rfl (hb hby d4_5) rfl rfl ?_
    refine st1 _ ?_
    refine XS.icmpNo X1.here hx rfl (hb hby d4_9) rfl (XT.ii_ge_f (by decide)) ?_
    refine XS.iloadN X1.here hx rfl (hb hby d4_12) rfl ?_
    refine XS.ifNo X1.here hx rfl (hb hby d4_13) rfl (XT.i0_eq_f (by decide)) ?_
    refine XS.aloadN X1.here hx rfl (hb hby d4_16) rfl rfl ?_
    refine XS.iloadN X1.here hx rfl (hb hby d4_17) rfl ?_
    refine st2 _ ?_
    refine XS.istoreN X2.here hx rfl (hb hby d4_21) rfl (l' := #[rv a0, iv 1, iv 0, iv c0]) rfl ?_
    refine XS.iloadN X2.here hx rfl (hb hby d4_22) rfl ?_
    refine XT.bipushV X2.here hx rfl (32 : Int32) (hb hby d4_23) (by decide) ?_
    exact k)
  by_cases hc25_4 : c0 = (32 : Int32)
  · obtain ⟨_, T5, Lc5, X5, hQ5, st5⟩ := own_virtual (W := 1) (y := mN5) (z := mN5) X2 hx hZ hown (hw _ (own_w 27 rfl)) (hw _ (own_w 28 rfl)) (notFace_of_selects (args := #[]) (mvT hZ (hw _ (own_w 30 rfl)))) (hw _ (own_w 30 rfl)) (hw _ (own_w 29 rfl)) (hw _ (own_w 31 rfl)) (hw _ (own_w 4 rfl)) (by decide) (rmLenJ_2 l Z av0 hw [] a0 wC fm c0 c1 h0 n0 Z0 hE hSt hS hw0) (by decide) (by decide) hE (g := (mkF m 6 #[rv a0, iv 0, iv 1, iv c0] [(.ref a0), (.int 1)])) rfl (by rw [hml]; rfl) (argsL := []) (rest := [(.int 1)]) (lenOf pd__I rfl) rfl (hb hby d4_6) rfl e2 (by decide : 0 + 0 ≤ _) (by decide : 0 + 0 ≤ _)
    obtain ⟨rfl, N5q, hh5⟩ := hQ5
    have N5 := Fr.app N2 N5q
    have e5 : T5.heap = h0 := hh5
    have S6 : ∀ t, oS p e below T5 (mkF m 48 #[rv a0, iv 0, iv 1, iv c0] [(.int 0)]) t → oS p e below s₁ (mkF m 0 #[rv a0, .unset, .unset, .unset] []) t := fun t k => S3 t (by
      show oS p e below T2 (mkF m 25 #[rv a0, iv 1, iv 0, iv c0] [(.int 32), (.int c0)]) _
      refine XS.icmpYes X2.here hx rfl (pc0 := 25) (pc' := 39) rfl (hb hby d4_25) rfl (XT.ii_eq_t hc25_4) (by decide) (by decide) ?_
      refine XT.iconstV X2.here hx rfl (0 : Int32) (hb hby d4_39) (by decide) ?_
      refine XS.istoreN X2.here hx rfl (hb hby d4_40) rfl (l' := #[rv a0, iv 0, iv 0, iv c0]) rfl ?_
      refine XT.iincV X2.here hx rfl (1 : Int32) (hb hby d4_41) (by decide) rfl (l' := #[rv a0, iv 0, iv 1, iv c0]) rfl ?_
      show oS p e below T2 (mkF m 44 #[rv a0, iv 0, iv 1, iv c0] []) _
      refine XS.goto X2.here hx rfl (pc0 := 44) (pc' := 4) rfl (hb hby d4_44) (by decide) (by decide) ?_
      refine XS.iloadN X2.here hx rfl (hb hby d4_4) rfl ?_
      refine XS.aloadN X2.here hx rfl (hb hby d4_5) rfl rfl ?_
      refine st5 _ ?_
      refine XS.icmpNo X5.here hx rfl (hb hby d4_9) rfl (XT.ii_ge_f (by decide)) ?_
      refine XS.iloadN X5.here hx rfl (hb hby d4_12) rfl ?_
      refine XS.ifYes X5.here hx rfl (pc0 := 13) (pc' := 47) rfl (hb hby d4_13) rfl (XT.i0_eq_t (by decide)) (by decide) (by decide) ?_
      refine XS.iloadN X5.here hx rfl (hb hby d4_47) rfl ?_
      exact k)
    obtain ⟨fs, hr, hrun, hended, hW, hsame⟩ := X5.leave (v := some (.int 0)) (fun h => by rw [Bd.returns] at h; cases h)
    refine ⟨_, _, pre0 _ (S6 _ ?_), hrun, hended, _, _, rfl, ?_, ⟨_, rfl⟩, hW, hsame.mono (by decide) (by decide)⟩
    · exact retN X5 hx (t := .boolean) Bd.returns (by simp) (hb hby d4_48) hr
    · show QrmNs_2 Z a0 wC fm c0 c1 h0 n0 _ T5.heap _
      rw [e5]
      exact ⟨by simp [own_ns, hc25_4], N5, rfl⟩
  · obtain ⟨_, T7, Lc7, X7, hQ7, st7⟩ := own_callS (W := 0) (y := mN0) X2 hx hZ hown (hw _ (own_w 74 rfl)) (hw _ (own_w 75 rfl)) (hw _ (own_w 76 rfl)) (hw _ (own_w 77 rfl)) (by decide) (rmB l Z av0 hw [] c0 h0 n0 Z0 ) (by decide) (by decide) (g := (mkF m 29 #[rv a0, iv 1, iv 0, iv c0] [(.int c0)])) rfl (by rw [hml]; rfl) (argsL := [(.int c0)]) (rest := []) (lenOf pd__C_Z rfl) rfl (hb hby d4_29) rfl e2 (by decide : 0 + 0 ≤ _) (by decide : 0 + 0 ≤ _)
    obtain ⟨rfl, N7q, hh7⟩ := hQ7
    have N7 := Fr.app N2 N7q
    have e7 : T7.heap = h0 := hh7
    have S8 : ∀ t, oS p e below T7 (mkF m 32 #[rv a0, iv 1, iv 0, iv c0] [(.int (own_bl c0))]) t → oS p e below s₁ (mkF m 0 #[rv a0, .unset, .unset, .unset] []) t := fun t k => S3 t (by
      show oS p e below T2 (mkF m 25 #[rv a0, iv 1, iv 0, iv c0] [(.int 32), (.int c0)]) _
      refine XS.icmpNo X2.here hx rfl (hb hby d4_25) rfl (XT.ii_eq_f hc25_4) ?_
      refine XS.iloadN X2.here hx rfl (hb hby d4_28) rfl ?_
      refine st7 _ ?_
      exact k)
    by_cases hc32_9 : (own_bl c0) = (0 : Int32)
    · obtain ⟨_, T10, Lc10, X10, hQ10, st10⟩ := own_virtual (W := 1) (y := mN5) (z := mN5) X7 hx hZ hown (hw _ (own_w 27 rfl)) (hw _ (own_w 28 rfl)) (notFace_of_selects (args := #[]) (mvT hZ (hw _ (own_w 30 rfl)))) (hw _ (own_w 30 rfl)) (hw _ (own_w 29 rfl)) (hw _ (own_w 31 rfl)) (hw _ (own_w 4 rfl)) (by decide) (rmLenJ_2 l Z av0 hw [] a0 wC fm c0 c1 h0 n0 Z0 hE hSt hS hw0) (by decide) (by decide) hE (g := (mkF m 6 #[rv a0, iv 1, iv 1, iv c0] [(.ref a0), (.int 1)])) rfl (by rw [hml]; rfl) (argsL := []) (rest := [(.int 1)]) (lenOf pd__I rfl) rfl (hb hby d4_6) rfl e7 (by decide : 0 + 0 ≤ _) (by decide : 0 + 0 ≤ _)
      obtain ⟨rfl, N10q, hh10⟩ := hQ10
      have N10 := Fr.app N7 N10q
      have e10 : T10.heap = h0 := hh10
      obtain ⟨_, T11, Lc11, X11, hQ11, st11⟩ := own_virtual (W := 0) (y := mN14) (z := mN14) X10 hx hZ hown (hw _ (own_w 52 rfl)) (hw _ (own_w 53 rfl)) (notFace_of_selects (args := #[]) (mvT hZ (hw _ (own_w 55 rfl)))) (hw _ (own_w 55 rfl)) (hw _ (own_w 54 rfl)) (hw _ (own_w 56 rfl)) (hw _ (own_w 4 rfl)) (by decide) (rmChJ_2_1 l Z av0 hw [] a0 wC fm c0 c1 h0 n0 Z0 hE hSt hS hw0 hfm hF sA sH sL hg1) (by decide) (by decide) hE (g := (mkF m 18 #[rv a0, iv 1, iv 1, iv c0] [(.int 1), (.ref a0)])) rfl (by rw [hml]; rfl) (argsL := [(.int 1)]) (rest := []) (lenOf pd__I_C rfl) rfl (hb hby d4_18) rfl e10 (by decide : 0 + 0 ≤ _) (by decide : 0 + 0 ≤ _)
      obtain ⟨rfl, N11q, hh11⟩ := hQ11
      have N11 := Fr.app N10 N11q
      have e11 : T11.heap = h0 := hh11
      have S12 : ∀ t, oS p e below T11 (mkF m 25 #[rv a0, iv 1, iv 1, iv c1] [(.int 32), (.int c1)]) t → oS p e below s₁ (mkF m 0 #[rv a0, .unset, .unset, .unset] []) t := fun t k => S8 t (by
        show oS p e below T7 (mkF m 32 #[rv a0, iv 1, iv 0, iv c0] [(.int (own_bl c0))]) _
        refine XS.ifNo X7.here hx rfl (hb hby d4_32) rfl (XT.i0_ne_f hc32_9) ?_
        show oS p e below T7 (mkF m 35 #[rv a0, iv 1, iv 0, iv c0] []) _
        refine XT.iconstV X7.here hx rfl (1 : Int32) (hb hby d4_35) (by decide) ?_
        refine XS.goto X7.here hx rfl (pc0 := 36) (pc' := 40) rfl (hb hby d4_36) (by decide) (by decide) ?_
        refine XS.istoreN X7.here hx rfl (hb hby d4_40) rfl (l' := #[rv a0, iv 1, iv 0, iv c0]) rfl ?_
        refine XT.iincV X7.here hx rfl (1 : Int32) (hb hby d4_41) (by decide) rfl (l' := #[rv a0, iv 1, iv 1, iv c0]) rfl ?_
        refine XS.goto X7.here hx rfl (pc0 := 44) (pc' := 4) rfl (hb hby d4_44) (by decide) (by decide) ?_
        refine XS.iloadN X7.here hx rfl (hb hby d4_4) rfl ?_
        refine XS.aloadN X7.here hx rfl (hb hby d4_5) rfl rfl ?_
        refine st10 _ ?_
        refine XS.icmpNo X10.here hx rfl (hb hby d4_9) rfl (XT.ii_ge_f (by decide)) ?_
        refine XS.iloadN X10.here hx rfl (hb hby d4_12) rfl ?_
        refine XS.ifNo X10.here hx rfl (hb hby d4_13) rfl (XT.i0_eq_f (by decide)) ?_
        refine XS.aloadN X10.here hx rfl (hb hby d4_16) rfl rfl ?_
        refine XS.iloadN X10.here hx rfl (hb hby d4_17) rfl ?_
        refine st11 _ ?_
        refine XS.istoreN X11.here hx rfl (hb hby d4_21) rfl (l' := #[rv a0, iv 1, iv 1, iv c1]) rfl ?_
        refine XS.iloadN X11.here hx rfl (hb hby d4_22) rfl ?_
        refine XT.bipushV X11.here hx rfl (32 : Int32) (hb hby d4_23) (by decide) ?_
        exact k)
      by_cases hc25_13 : c1 = (32 : Int32)
      · obtain ⟨_, T14, Lc14, X14, hQ14, st14⟩ := own_virtual (W := 1) (y := mN5) (z := mN5) X11 hx hZ hown (hw _ (own_w 27 rfl)) (hw _ (own_w 28 rfl)) (notFace_of_selects (args := #[]) (mvT hZ (hw _ (own_w 30 rfl)))) (hw _ (own_w 30 rfl)) (hw _ (own_w 29 rfl)) (hw _ (own_w 31 rfl)) (hw _ (own_w 4 rfl)) (by decide) (rmLenJ_2 l Z av0 hw [] a0 wC fm c0 c1 h0 n0 Z0 hE hSt hS hw0) (by decide) (by decide) hE (g := (mkF m 6 #[rv a0, iv 0, iv 2, iv c1] [(.ref a0), (.int 2)])) rfl (by rw [hml]; rfl) (argsL := []) (rest := [(.int 2)]) (lenOf pd__I rfl) rfl (hb hby d4_6) rfl e11 (by decide : 0 + 0 ≤ _) (by decide : 0 + 0 ≤ _)
        obtain ⟨rfl, N14q, hh14⟩ := hQ14
        have N14 := Fr.app N11 N14q
        have e14 : T14.heap = h0 := hh14
        have S15 : ∀ t, oS p e below T14 (mkF m 48 #[rv a0, iv 0, iv 2, iv c1] [(.int 0)]) t → oS p e below s₁ (mkF m 0 #[rv a0, .unset, .unset, .unset] []) t := fun t k => S12 t (by
          show oS p e below T11 (mkF m 25 #[rv a0, iv 1, iv 1, iv c1] [(.int 32), (.int c1)]) _
          refine XS.icmpYes X11.here hx rfl (pc0 := 25) (pc' := 39) rfl (hb hby d4_25) rfl (XT.ii_eq_t hc25_13) (by decide) (by decide) ?_
          refine XT.iconstV X11.here hx rfl (0 : Int32) (hb hby d4_39) (by decide) ?_
          refine XS.istoreN X11.here hx rfl (hb hby d4_40) rfl (l' := #[rv a0, iv 0, iv 1, iv c1]) rfl ?_
          show oS p e below T11 (mkF m 41 #[rv a0, iv 0, iv 1, iv c1] []) _
          refine XT.iincV X11.here hx rfl (1 : Int32) (hb hby d4_41) (by decide) rfl (l' := #[rv a0, iv 0, iv 2, iv c1]) rfl ?_
          refine XS.goto X11.here hx rfl (pc0 := 44) (pc' := 4) rfl (hb hby d4_44) (by decide) (by decide) ?_
          refine XS.iloadN X11.here hx rfl (hb hby d4_4) rfl ?_
          refine XS.aloadN X11.here hx rfl (hb hby d4_5) rfl rfl ?_
          refine st14 _ ?_
          refine XS.icmpYes X14.here hx rfl (pc0 := 9) (pc' := 47) rfl (hb hby d4_9) rfl (XT.ii_ge_t (by decide)) (by decide) (by decide) ?_
          refine XS.iloadN X14.here hx rfl (hb hby d4_47) rfl ?_
          exact k)
        obtain ⟨fs, hr, hrun, hended, hW, hsame⟩ := X14.leave (v := some (.int 0)) (fun h => by rw [Bd.returns] at h; cases h)
        refine ⟨_, _, pre0 _ (S15 _ ?_), hrun, hended, _, _, rfl, ?_, ⟨_, rfl⟩, hW, hsame.mono (by decide) (by decide)⟩
        · exact retN X14 hx (t := .boolean) Bd.returns (by simp) (hb hby d4_48) hr
        · show QrmNs_2 Z a0 wC fm c0 c1 h0 n0 _ T14.heap _
          rw [e14]
          exact ⟨by simp [own_ns, hc25_4, hc32_9, hc25_13], N14, rfl⟩
      · obtain ⟨_, T16, Lc16, X16, hQ16, st16⟩ := own_callS (W := 0) (y := mN0) X11 hx hZ hown (hw _ (own_w 74 rfl)) (hw _ (own_w 75 rfl)) (hw _ (own_w 76 rfl)) (hw _ (own_w 77 rfl)) (by decide) (rmB l Z av0 hw [] c1 h0 n0 Z0 ) (by decide) (by decide) (g := (mkF m 29 #[rv a0, iv 1, iv 1, iv c1] [(.int c1)])) rfl (by rw [hml]; rfl) (argsL := [(.int c1)]) (rest := []) (lenOf pd__C_Z rfl) rfl (hb hby d4_29) rfl e11 (by decide : 0 + 0 ≤ _) (by decide : 0 + 0 ≤ _)
        obtain ⟨rfl, N16q, hh16⟩ := hQ16
        have N16 := Fr.app N11 N16q
        have e16 : T16.heap = h0 := hh16
        have S17 : ∀ t, oS p e below T16 (mkF m 32 #[rv a0, iv 1, iv 1, iv c1] [(.int (own_bl c1))]) t → oS p e below s₁ (mkF m 0 #[rv a0, .unset, .unset, .unset] []) t := fun t k => S12 t (by
          show oS p e below T11 (mkF m 25 #[rv a0, iv 1, iv 1, iv c1] [(.int 32), (.int c1)]) _
          refine XS.icmpNo X11.here hx rfl (hb hby d4_25) rfl (XT.ii_eq_f hc25_13) ?_
          refine XS.iloadN X11.here hx rfl (hb hby d4_28) rfl ?_
          refine st16 _ ?_
          show oS p e below T16 (mkF m 32 #[rv a0, iv 1, iv 1, iv c1] [(.int (own_bl c1))]) _
          exact k)
        by_cases hc32_18 : (own_bl c1) = (0 : Int32)
        · obtain ⟨_, T19, Lc19, X19, hQ19, st19⟩ := own_virtual (W := 1) (y := mN5) (z := mN5) X16 hx hZ hown (hw _ (own_w 27 rfl)) (hw _ (own_w 28 rfl)) (notFace_of_selects (args := #[]) (mvT hZ (hw _ (own_w 30 rfl)))) (hw _ (own_w 30 rfl)) (hw _ (own_w 29 rfl)) (hw _ (own_w 31 rfl)) (hw _ (own_w 4 rfl)) (by decide) (rmLenJ_2 l Z av0 hw [] a0 wC fm c0 c1 h0 n0 Z0 hE hSt hS hw0) (by decide) (by decide) hE (g := (mkF m 6 #[rv a0, iv 1, iv 2, iv c1] [(.ref a0), (.int 2)])) rfl (by rw [hml]; rfl) (argsL := []) (rest := [(.int 2)]) (lenOf pd__I rfl) rfl (hb hby d4_6) rfl e16 (by decide : 0 + 0 ≤ _) (by decide : 0 + 0 ≤ _)
          obtain ⟨rfl, N19q, hh19⟩ := hQ19
          have N19 := Fr.app N16 N19q
          have e19 : T19.heap = h0 := hh19
          have S20 : ∀ t, oS p e below T19 (mkF m 48 #[rv a0, iv 1, iv 2, iv c1] [(.int 1)]) t → oS p e below s₁ (mkF m 0 #[rv a0, .unset, .unset, .unset] []) t := fun t k => S17 t (by
            show oS p e below T16 (mkF m 32 #[rv a0, iv 1, iv 1, iv c1] [(.int (own_bl c1))]) _
            refine XS.ifNo X16.here hx rfl (hb hby d4_32) rfl (XT.i0_ne_f hc32_18) ?_
            refine XT.iconstV X16.here hx rfl (1 : Int32) (hb hby d4_35) (by decide) ?_
            refine XS.goto X16.here hx rfl (pc0 := 36) (pc' := 40) rfl (hb hby d4_36) (by decide) (by decide) ?_
            refine XS.istoreN X16.here hx rfl (hb hby d4_40) rfl (l' := #[rv a0, iv 1, iv 1, iv c1]) rfl ?_
            refine XT.iincV X16.here hx rfl (1 : Int32) (hb hby d4_41) (by decide) rfl (l' := #[rv a0, iv 1, iv 2, iv c1]) rfl ?_
            refine XS.goto X16.here hx rfl (pc0 := 44) (pc' := 4) rfl (hb hby d4_44) (by decide) (by decide) ?_
            refine XS.iloadN X16.here hx rfl (hb hby d4_4) rfl ?_
            refine XS.aloadN X16.here hx rfl (hb hby d4_5) rfl rfl ?_
            refine st19 _ ?_
            refine XS.icmpYes X19.here hx rfl (pc0 := 9) (pc' := 47) rfl (hb hby d4_9) rfl (XT.ii_ge_t (by decide)) (by decide) (by decide) ?_
            refine XS.iloadN X19.here hx rfl (hb hby d4_47) rfl ?_
            exact k)
          obtain ⟨fs, hr, hrun, hended, hW, hsame⟩ := X19.leave (v := some (.int 1)) (fun h => by rw [Bd.returns] at h; cases h)
          refine ⟨_, _, pre0 _ (S20 _ ?_), hrun, hended, _, _, rfl, ?_, ⟨_, rfl⟩, hW, hsame.mono (by decide) (by decide)⟩
          · exact retN X19 hx (t := .boolean) Bd.returns (by simp) (hb hby d4_48) hr
          · show QrmNs_2 Z a0 wC fm c0 c1 h0 n0 _ T19.heap _
            rw [e19]
            exact ⟨by simp [own_ns, hc25_4, hc32_9, hc25_13, hc32_18], N19, rfl⟩
        · obtain ⟨_, T21, Lc21, X21, hQ21, st21⟩ := own_virtual (W := 1) (y := mN5) (z := mN5) X16 hx hZ hown (hw _ (own_w 27 rfl)) (hw _ (own_w 28 rfl)) (notFace_of_selects (args := #[]) (mvT hZ (hw _ (own_w 30 rfl)))) (hw _ (own_w 30 rfl)) (hw _ (own_w 29 rfl)) (hw _ (own_w 31 rfl)) (hw _ (own_w 4 rfl)) (by decide) (rmLenJ_2 l Z av0 hw [] a0 wC fm c0 c1 h0 n0 Z0 hE hSt hS hw0) (by decide) (by decide) hE (g := (mkF m 6 #[rv a0, iv 0, iv 2, iv c1] [(.ref a0), (.int 2)])) rfl (by rw [hml]; rfl) (argsL := []) (rest := [(.int 2)]) (lenOf pd__I rfl) rfl (hb hby d4_6) rfl e16 (by decide : 0 + 0 ≤ _) (by decide : 0 + 0 ≤ _)
          obtain ⟨rfl, N21q, hh21⟩ := hQ21
          have N21 := Fr.app N16 N21q
          have e21 : T21.heap = h0 := hh21
          have S22 : ∀ t, oS p e below T21 (mkF m 48 #[rv a0, iv 0, iv 2, iv c1] [(.int 0)]) t → oS p e below s₁ (mkF m 0 #[rv a0, .unset, .unset, .unset] []) t := fun t k => S17 t (by
            show oS p e below T16 (mkF m 32 #[rv a0, iv 1, iv 1, iv c1] [(.int (own_bl c1))]) _
            refine XS.ifYes X16.here hx rfl (pc0 := 32) (pc' := 39) rfl (hb hby d4_32) rfl (XT.i0_ne_t hc32_18) (by decide) (by decide) ?_
            refine XT.iconstV X16.here hx rfl (0 : Int32) (hb hby d4_39) (by decide) ?_
            refine XS.istoreN X16.here hx rfl (hb hby d4_40) rfl (l' := #[rv a0, iv 0, iv 1, iv c1]) rfl ?_
            refine XT.iincV X16.here hx rfl (1 : Int32) (hb hby d4_41) (by decide) rfl (l' := #[rv a0, iv 0, iv 2, iv c1]) rfl ?_
            refine XS.goto X16.here hx rfl (pc0 := 44) (pc' := 4) rfl (hb hby d4_44) (by decide) (by decide) ?_
            refine XS.iloadN X16.here hx rfl (hb hby d4_4) rfl ?_
            refine XS.aloadN X16.here hx rfl (hb hby d4_5) rfl rfl ?_
            refine st21 _ ?_
            refine XS.icmpYes X21.here hx rfl (pc0 := 9) (pc' := 47) rfl (hb hby d4_9) rfl (XT.ii_ge_t (by decide)) (by decide) (by decide) ?_
            refine XS.iloadN X21.here hx rfl (hb hby d4_47) rfl ?_
            exact k)
          obtain ⟨fs, hr, hrun, hended, hW, hsame⟩ := X21.leave (v := some (.int 0)) (fun h => by rw [Bd.returns] at h; cases h)
          refine ⟨_, _, pre0 _ (S22 _ ?_), hrun, hended, _, _, rfl, ?_, ⟨_, rfl⟩, hW, hsame.mono (by decide) (by decide)⟩
          · exact retN X21 hx (t := .boolean) Bd.returns (by simp) (hb hby d4_48) hr
          · show QrmNs_2 Z a0 wC fm c0 c1 h0 n0 _ T21.heap _
            rw [e21]
            exact ⟨by simp [own_ns, hc25_4, hc32_9, hc25_13, hc32_18], N21, rfl⟩
    · obtain ⟨_, T23, Lc23, X23, hQ23, st23⟩ := own_virtual (W := 1) (y := mN5) (z := mN5) X7 hx hZ hown (hw _ (own_w 27 rfl)) (hw _ (own_w 28 rfl)) (notFace_of_selects (args := #[]) (mvT hZ (hw _ (own_w 30 rfl)))) (hw _ (own_w 30 rfl)) (hw _ (own_w 29 rfl)) (hw _ (own_w 31 rfl)) (hw _ (own_w 4 rfl)) (by decide) (rmLenJ_2 l Z av0 hw [] a0 wC fm c0 c1 h0 n0 Z0 hE hSt hS hw0) (by decide) (by decide) hE (g := (mkF m 6 #[rv a0, iv 0, iv 1, iv c0] [(.ref a0), (.int 1)])) rfl (by rw [hml]; rfl) (argsL := []) (rest := [(.int 1)]) (lenOf pd__I rfl) rfl (hb hby d4_6) rfl e7 (by decide : 0 + 0 ≤ _) (by decide : 0 + 0 ≤ _)
      obtain ⟨rfl, N23q, hh23⟩ := hQ23
      have N23 := Fr.app N7 N23q
      have e23 : T23.heap = h0 := hh23
      have S24 : ∀ t, oS p e below T23 (mkF m 48 #[rv a0, iv 0, iv 1, iv c0] [(.int 0)]) t → oS p e below s₁ (mkF m 0 #[rv a0, .unset, .unset, .unset] []) t := fun t k => S8 t (by
        show oS p e below T7 (mkF m 32 #[rv a0, iv 1, iv 0, iv c0] [(.int (own_bl c0))]) _
        refine XS.ifYes X7.here hx rfl (pc0 := 32) (pc' := 39) rfl (hb hby d4_32) rfl (XT.i0_ne_t hc32_9) (by decide) (by decide) ?_
        show oS p e below T7 (mkF m 39 #[rv a0, iv 1, iv 0, iv c0] []) _
        refine XT.iconstV X7.here hx rfl (0 : Int32) (hb hby d4_39) (by decide) ?_
        refine XS.istoreN X7.here hx rfl (hb hby d4_40) rfl (l' := #[rv a0, iv 0, iv 0, iv c0]) rfl ?_
        refine XT.iincV X7.here hx rfl (1 : Int32) (hb hby d4_41) (by decide) rfl (l' := #[rv a0, iv 0, iv 1, iv c0]) rfl ?_
        refine XS.goto X7.here hx rfl (pc0 := 44) (pc' := 4) rfl (hb hby d4_44) (by decide) (by decide) ?_
        refine XS.iloadN X7.here hx rfl (hb hby d4_4) rfl ?_
        refine XS.aloadN X7.here hx rfl (hb hby d4_5) rfl rfl ?_
        refine st23 _ ?_
        refine XS.icmpNo X23.here hx rfl (hb hby d4_9) rfl (XT.ii_ge_f (by decide)) ?_
        refine XS.iloadN X23.here hx rfl (hb hby d4_12) rfl ?_
        refine XS.ifYes X23.here hx rfl (pc0 := 13) (pc' := 47) rfl (hb hby d4_13) rfl (XT.i0_eq_t (by decide)) (by decide) (by decide) ?_
        refine XS.iloadN X23.here hx rfl (hb hby d4_47) rfl ?_
        exact k)
      obtain ⟨fs, hr, hrun, hended, hW, hsame⟩ := X23.leave (v := some (.int 0)) (fun h => by rw [Bd.returns] at h; cases h)
      refine ⟨_, _, pre0 _ (S24 _ ?_), hrun, hended, _, _, rfl, ?_, ⟨_, rfl⟩, hW, hsame.mono (by decide) (by decide)⟩
      · exact retN X23 hx (t := .boolean) Bd.returns (by simp) (hb hby d4_48) hr
      · show QrmNs_2 Z a0 wC fm c0 c1 h0 n0 _ T23.heap _
        rw [e23]
        exact ⟨by simp [own_ns, hc25_4, hc32_9], N23, rfl⟩
def QrmCp5_2_0 (Z : State) (a0 : Addr) (a2 : Addr) (ka : ClassId) (kb : ClassId) (c0 : Int32) (c1 : Int32) (h0 : Heap) (n0 : Nat) (v : Option Value) (h : Heap) (L : List Loc) : Prop := v = some (.int (0 : Int32)) ∧ Fr n0 L ∧ Keep h0 h [a2] ∧ Arv Z h a2 kb .byte (2 : Int32) [(.int (0 : Int32)), (.int (0 : Int32))] (.int (0 : Int32))
set_option maxRecDepth 65536 in
set_option maxHeartbeats 40000000 in
theorem rmCp5_2_0 (l : Launch) (Z : State) (av0 : Array Value) (hw : ∀ d ∈ tables_1, d.before av0 Z = true) (ws : List Jvm.Cond) (a0 : Addr) (a2 : Addr) (ka : ClassId) (kb : ClassId) (c0 : Int32) (c1 : Int32) (h0 : Heap) (n0 : Nat) (Z0 : n0 ≤ h0.size) (hA : Arv Z h0 a0 ka .char (2 : Int32) [(.int c0), (.int c1)] (.int (0 : Int32))) (hB : Arv Z h0 a2 kb .byte (2 : Int32) [(.int (0 : Int32)), (.int (0 : Int32))] (.int (0 : Int32))) (hne : a0 ≠ a2) (hge : n0 ≤ a2) (hbg : (255 : Int32) < c0) :
    own_Met l mN16 jdk_52_method_21_code 7 (some .int) ws ({ frames := 0, cells := 0, slots := 0, locals := 0 } : Room) #[(.ref a0), (.int 0), (.ref a2), (.int 0), (.int 2)] Z h0 (QrmCp5_2_0 Z a0 a2 ka kb c0 c1 h0 n0) := by
  refine MetFree.of_bodySF (plainFor_of_name pn_StringUTF16) hisR ?_
  intro p e s m args below meth c s₁ Bd hml0 hP hK
  obtain ⟨rfl, hZ, hh⟩ := hP
  have hml : c.maxLocals = 7 := hml0
  obtain ⟨hx, hby, hown, hnm, X0, e0⟩ := own_start Bd hml0 hh
  have N0 := Fr.nil n0
  have pre0 : ∀ t, oS p e below s₁ (mkF m 0 #[rv a0, iv 0, rv a2, iv 0, iv 2, .unset, .unset] []) t → Steps p.tables e below (s₁.setTop (entryFrame m #[(.ref a0), (.int 0), (.ref a2), (.int 0), (.int 2)] 7)) t := fun t k => castTop (by first | (simp [entryFrame, mkF, argsToLocals, Value.category]; done) | rfl) k
  obtain ⟨cl1, Ar1, qk1, Sz1, Ng1, Hs1, Gs1⟩ := id hA
  have hin1 : ¬ ((0 : Int32) < 0 ∨ cl1.slots.size ≤ ((0 : Int32)).toNatClampNeg) := inb_of Sz1 ⟨by decide, by decide⟩
  have hat1 : cl1.slots[((0 : Int32)).toNatClampNeg]? = some (.int c0) := Hs1.at hin1 rfl
  have S2 : ∀ t, oS p e below s₁ (mkF m 25 #[rv a0, iv 0, rv a2, iv 0, iv 2, iv 0, iv c0] [(.int 0)]) t → oS p e below s₁ (mkF m 0 #[rv a0, iv 0, rv a2, iv 0, iv 2, .unset, .unset] []) t := fun t k => id (by
    show oS p e below s₁ (mkF m 0 #[rv a0, iv 0, rv a2, iv 0, iv 2, .unset, .unset] []) _
    refine XT.iconstV X0.here hx rfl (0 : Int32) (hb hby d8_0) (by decide) ?_
    refine XS.istore X0.here hx rfl (hb hby d8_1) rfl (l' := #[rv a0, iv 0, rv a2, iv 0, iv 2, iv 0, .unset]) rfl ?_
    refine XS.iload X0.here hx rfl (hb hby d8_3) rfl ?_
    refine XS.iload X0.here hx rfl (hb hby d8_5) rfl ?_
    refine XS.icmpNo X0.here hx rfl (hb hby d8_7) rfl (XT.ii_ge_f (by decide)) ?_
    refine XS.aloadN X0.here hx rfl (hb hby d8_10) rfl rfl ?_
    refine XS.iloadN X0.here hx rfl (hb hby d8_11) rfl ?_
    refine X0.caload hx (j := (0 : Int32)) (v := (.int c0)) (by rw [e0]; exact Ar1.1) (State.isArrayOf_alike hZ.alike Ar1.2.1) Ar1.2.2 hin1 hat1 (g := (mkF m 12 #[rv a0, iv 0, rv a2, iv 0, iv 2, iv 0, .unset] [(.int 0), (.ref a0)])) rfl rfl (hb hby d8_12) _ ?_
    refine XS.istore X0.here hx rfl (hb hby d8_13) rfl (l' := #[rv a0, iv 0, rv a2, iv 0, iv 2, iv 0, iv c0]) rfl ?_
    refine XS.iload X0.here hx rfl (hb hby d8_15) rfl ?_
    refine XT.sipushV X0.here hx rfl (255 : Int32) (hb hby d8_17) (by decide) ?_
    refine XS.icmpNo X0.here hx rfl (hb hby d8_20) rfl (XT.ii_le_f hbg) ?_
    refine XS.iload X0.here hx rfl (hb hby d8_23) rfl ?_
    exact k)
  obtain ⟨fs, hr, hrun, hended, hW, hsame⟩ := X0.leave (v := some (.int 0)) (fun h => by rw [Bd.returns] at h; cases h)
  refine ⟨_, _, pre0 _ (S2 _ ?_), hrun, hended, _, _, rfl, ?_, ⟨_, rfl⟩, hW, hsame.mono (by decide) (by decide)⟩
  · exact retI X0 hx Bd.returns (hb hby d8_25) hr
  · show QrmCp5_2_0 Z a0 a2 ka kb c0 c1 h0 n0 _ s₁.heap _
    rw [e0]
    exact ⟨congrArg (fun z => some (Value.int z)) (by decide), N0, (Keep.refl _ _), hB⟩
def QrmNbl_2 (Z : State)  (h0 : Heap) (n0 : Nat) (v : Option Value) (h : Heap) (L : List Loc) : Prop := v = some (.int (4 : Int32)) ∧ Fr n0 L ∧ h = h0
set_option maxRecDepth 65536 in
set_option maxHeartbeats 40000000 in
theorem rmNbl_2 (l : Launch) (Z : State) (av0 : Array Value) (hw : ∀ d ∈ tables_1, d.before av0 Z = true) (ws : List Jvm.Cond)  (h0 : Heap) (n0 : Nat) (Z0 : n0 ≤ h0.size)  :
    own_Met l mN17 jdk_52_method_3_code 1 (some .int) ws ({ frames := 0, cells := 0, slots := 0, locals := 0 } : Room) #[(.int 2)] Z h0 (QrmNbl_2 Z  h0 n0) := by
  refine MetFree.of_bodySF (plainFor_of_name pn_StringUTF16) hisR ?_
  intro p e s m args below meth c s₁ Bd hml0 hP hK
  obtain ⟨rfl, hZ, hh⟩ := hP
  have hml : c.maxLocals = 1 := hml0
  obtain ⟨hx, hby, hown, hnm, X0, e0⟩ := own_start Bd hml0 hh
  have N0 := Fr.nil n0
  have pre0 : ∀ t, oS p e below s₁ (mkF m 0 #[iv 2] []) t → Steps p.tables e below (s₁.setTop (entryFrame m #[(.int 2)] 1)) t := fun t k => castTop (by first | (simp [entryFrame, mkF, argsToLocals, Value.category]; done) | rfl) k
  have S1 : ∀ t, oS p e below s₁ (mkF m 58 #[iv 2] [(.int 4)]) t → oS p e below s₁ (mkF m 0 #[iv 2] []) t := fun t k => id (by
    show oS p e below s₁ (mkF m 0 #[iv 2] []) _
    refine XS.iloadN X0.here hx rfl (hb hby d19_0) rfl ?_
    refine XS.ifYes X0.here hx rfl (pc0 := 1) (pc' := 12) rfl (hb hby d19_1) rfl (XT.i0_ge_t (by decide)) (by decide) (by decide) ?_
    refine XS.iloadN X0.here hx rfl (hb hby d19_12) rfl ?_
    refine X0.ldcI hx hown (mvT hZ (hw _ (own_w 87 rfl))) rfl (hb hby d19_13) ?_
    refine XS.icmpYes X0.here hx rfl (pc0 := 15) (pc' := 55) rfl (hb hby d19_15) rfl (XT.ii_lt_t (by decide)) (by decide) (by decide) ?_
    refine XS.iloadN X0.here hx rfl (hb hby d19_55) rfl ?_
    refine XT.iconstV X0.here hx rfl (1 : Int32) (hb hby d19_56) (by decide) ?_
    refine XT.ishl X0.here hx rfl (hb hby d19_57) rfl ?_
    exact k)
  obtain ⟨fs, hr, hrun, hended, hW, hsame⟩ := X0.leave (v := some (.int 4)) (fun h => by rw [Bd.returns] at h; cases h)
  refine ⟨_, _, pre0 _ (S1 _ ?_), hrun, hended, _, _, rfl, ?_, ⟨_, rfl⟩, hW, hsame.mono (by decide) (by decide)⟩
  · exact retI X0 hx Bd.returns (hb hby d19_58) hr
  · show QrmNbl_2 Z  h0 n0 _ s₁.heap _
    rw [e0]
    exact ⟨congrArg (fun z => some (Value.int z)) (by decide), N0, rfl⟩
def QrmNbf_2 (Z : State)  (h0 : Heap) (n0 : Nat) (v : Option Value) (h : Heap) (L : List Loc) : Prop := ∃ (b : Addr) (k : ClassId), v = some (.ref b) ∧ Fr n0 L ∧ h0.size ≤ b ∧ Keep h0 h [] ∧ Arv Z h b k .byte (4 : Int32) [(.int (0 : Int32)), (.int (0 : Int32)), (.int (0 : Int32)), (.int (0 : Int32))] (.int (0 : Int32))
set_option maxRecDepth 65536 in
set_option maxHeartbeats 40000000 in
theorem rmNbf_2 (l : Launch) (Z : State) (av0 : Array Value) (hw : ∀ d ∈ tables_1, d.before av0 Z = true) (ws : List Jvm.Cond)  (h0 : Heap) (n0 : Nat) (Z0 : n0 ≤ h0.size)  :
    own_Met l mN18 jdk_52_method_2_code 1 (some (.array .byte)) ws ({ frames := 1, cells := 1, slots := 4, locals := 12 } : Room) #[(.int 2)] Z h0 (QrmNbf_2 Z  h0 n0) := by
  refine MetFree.of_bodySF (plainFor_of_name pn_StringUTF16) hisR ?_
  intro p e s m args below meth c s₁ Bd hml0 hP hK
  obtain ⟨rfl, hZ, hh⟩ := hP
  have hml : c.maxLocals = 1 := hml0
  obtain ⟨hx, hby, hown, hnm, X0, e0⟩ := own_start Bd hml0 hh
  have N0 := Fr.nil n0
  have pre0 : ∀ t, oS p e below s₁ (mkF m 0 #[iv 2] []) t → Steps p.tables e below (s₁.setTop (entryFrame m #[(.int 2)] 1)) t := fun t k => castTop (by first | (simp [entryFrame, mkF, argsToLocals, Value.category]; done) | rfl) k
  obtain ⟨_, T1, Lc1, X1, hQ1, st1⟩ := own_callS (W := 0) (y := mN17) X0 hx hZ hown (hw _ (own_w 84 rfl)) (hw _ (own_w 85 rfl)) (hw _ (own_w 40 rfl)) (hw _ (own_w 86 rfl)) (by decide) (rmNbl_2 l Z av0 hw []  h0 n0 Z0 ) (by decide) (by decide) (g := (mkF m 1 #[iv 2] [(.int 2)])) rfl (by rw [hml]; rfl) (argsL := [(.int 2)]) (rest := []) (lenOf pd__I_I rfl) rfl (hb hby d18_1) rfl e0 (by decide : 0 + 0 ≤ _) (by decide : 0 + 0 ≤ _)
  obtain ⟨rfl, N1q, hh1⟩ := hQ1
  have N1 := Fr.app N0 N1q
  have e1 : T1.heap = h0 := hh1
  obtain ⟨T2, h2, k2, X2, e2, E2, A2, st2⟩ := newP X1 hx hZ (hw _ (own_w 16 rfl)) e1 (g := (mkF m 4 #[iv 2] [(.int 4)])) rfl (hb hby d18_4) rfl (by decide) (cap := 4) (by decide) (by decide) (by decide) (by decide)
  obtain ⟨b2, g2⟩ : ∃ z, z = h0.size := ⟨_, rfl⟩
  rw [← g2] at A2 st2
  have ge_b2 : n0 ≤ b2 := Nat.le_trans Z0 (Nat.le_of_eq g2.symm)
  have sz_b2 : h0.size ≤ b2 := Nat.le_of_eq g2.symm
  have Z2 : n0 ≤ h2.size := Nat.le_trans Z0 E2.1
  have K2 : Keep h0 h2 [] := (Keep.refl h0 []).ext E2
  have V2 : Arv Z h2 b2 k2 .byte (4 : Int32) [(.int (0 : Int32)), (.int (0 : Int32)), (.int (0 : Int32)), (.int (0 : Int32))] (.int (0 : Int32)) := (Arv.new A2 (by decide)).pad (pad_rep [] (.int (0 : Int32)) 4)
  have S3 : ∀ t, oS p e below T2 (mkF m 6 #[iv 2] [(.ref b2)]) t → oS p e below s₁ (mkF m 0 #[iv 2] []) t := fun t k => id (by
    show oS p e below s₁ (mkF m 0 #[iv 2] []) _
    refine XS.iloadN X0.here hx rfl (hb hby d18_0) rfl ?_
    refine st1 _ ?_
    refine st2 _ ?_
    exact k)
  obtain ⟨fs, hr, hrun, hended, hW, hsame⟩ := X2.leave (v := some (.ref b2)) (fun h => by rw [Bd.returns] at h; cases h)
  refine ⟨_, _, pre0 _ (S3 _ ?_), hrun, hended, _, _, rfl, ?_, ⟨_, rfl⟩, hW, hsame.mono (by decide) (by decide)⟩
  · jvm_step X2.here [X2.here.top, hx, (hb hby d18_6), X2.method', Bd.returns, Value.isRef, FieldType.isReference]
    first | (intro acts; rw [hr _ acts rfl rfl rfl]) | rw [hr _ _ rfl rfl rfl]
    exact Steps.refl _
  · show QrmNbf_2 Z  h0 n0 _ T2.heap _
    rw [e2]
    exact ⟨_, _, rfl, N1, sz_b2, K2, V2⟩
def QrmPut_2_0 (Z : State) (a0 : Addr) (ka : ClassId) (cc : Int32) (h0 : Heap) (n0 : Nat) (v : Option Value) (h : Heap) (L : List Loc) : Prop := v = none ∧ Fr n0 L ∧ Keep h0 h [a0] ∧ Arv Z h a0 ka .byte (4 : Int32) [(.int (own_lo cc)), (.int (own_hi cc)), (.int (0 : Int32)), (.int (0 : Int32))] (.int (0 : Int32))
set_option maxRecDepth 65536 in
set_option maxHeartbeats 40000000 in
theorem rmPut_2_0 (l : Launch) (Z : State) (av0 : Array Value) (hw : ∀ d ∈ tables_1, d.before av0 Z = true) (ws : List Jvm.Cond) (a0 : Addr) (ka : ClassId) (cc : Int32) (h0 : Heap) (n0 : Nat) (Z0 : n0 ≤ h0.size) (hA : Arv Z h0 a0 ka .byte (4 : Int32) [(.int (0 : Int32)), (.int (0 : Int32)), (.int (0 : Int32)), (.int (0 : Int32))] (.int (0 : Int32))) (hge : n0 ≤ a0) (sA : Sta Z h0 "java/lang/StringUTF16" "$assertionsDisabled" "Z" (.int (1 : Int32))) (sH : Sta Z h0 "java/lang/StringUTF16" "HI_BYTE_SHIFT" "I" (.int (0 : Int32))) (sL : Sta Z h0 "java/lang/StringUTF16" "LO_BYTE_SHIFT" "I" (.int (8 : Int32))) :
    own_Met l mN19 jdk_52_method_4_code 3 none ws ({ frames := 0, cells := 0, slots := 0, locals := 0 } : Room) #[(.ref a0), (.int 0), (.int cc)] Z h0 (QrmPut_2_0 Z a0 ka cc h0 n0) := by
  refine MetFree.of_bodySF (plainFor_of_name pn_StringUTF16) hisR ?_
  intro p e s m args below meth c s₁ Bd hml0 hP hK
  obtain ⟨rfl, hZ, hh⟩ := hP
  have hml : c.maxLocals = 3 := hml0
  obtain ⟨hx, hby, hown, hnm, X0, e0⟩ := own_start Bd hml0 hh
  have N0 := Fr.nil n0
  have pre0 : ∀ t, oS p e below s₁ (mkF m 0 #[rv a0, iv 0, iv cc] []) t → Steps p.tables e below (s₁.setTop (entryFrame m #[(.ref a0), (.int 0), (.int cc)] 3)) t := fun t k => castTop (by first | (simp [entryFrame, mkF, argsToLocals, Value.category]; done) | rfl) k
  obtain ⟨T1, X1, e1, st1⟩ := getS2 X0 hx hZ hown (host := "") (Or.inl (hw _ (own_w 91 rfl))) Via.refl e0 sA (g := (mkF m 0 #[rv a0, iv 0, iv cc] [])) rfl (hb hby d20_0)
  obtain ⟨T2, X2, e2, st2⟩ := getS2 X1 hx hZ hown (host := "") (Or.inl (hw _ (own_w 92 rfl))) Via.refl e1 sH (g := (mkF m 38 #[rv a0, iv 1, iv cc] [(.int cc), (.int 0), (.ref a0)])) rfl (hb hby d20_38)
  obtain ⟨cl3, Ar3, qk3, Sz3, Ng3, Hs3, Gs3⟩ := id hA
  have hin3 : ¬ ((0 : Int32) < 0 ∨ cl3.slots.size ≤ ((0 : Int32)).toNatClampNeg) := inb_of Sz3 ⟨by decide, by decide⟩
  obtain ⟨T4, h4, X4, e4, W4, st4⟩ := stB X2 hx hZ e2 Ar3 (j := (0 : Int32)) hin3 (g := (mkF m 43 #[rv a0, iv 1, iv cc] [(.int ((cc >>> ((0 : Int32) &&& 31))).toInt8.toInt32), (.int 0), (.ref a0)])) rfl rfl (hb hby d20_43)
  have N4 := Fr.snoc X4 N0 hge
  have Z4 : n0 ≤ h4.size := Nat.le_trans Z0 (Nat.le_of_eq W4.size.symm)
  have K4 : Keep h0 h4 [a0] := (Keep.refl h0 [a0]).wr W4 (Or.inl (List.mem_of_getElem? (i := 0) rfl))
  have V4 : Arv Z h4 a0 ka .byte (4 : Int32) [(.int (nar .byte ((cc >>> ((0 : Int32) &&& 31))).toInt8.toInt32)), (.int (0 : Int32)), (.int (0 : Int32)), (.int (0 : Int32))] (.int (0 : Int32)) := Arv.set Ar3 qk3 Sz3 Ng3 Hs3 Gs3 (fits_nar_byte _) W4 0 rfl (Nat.le_of_ble_eq_true rfl)
  have f5 := (sL.wr W4)
  obtain ⟨T6, X6, e6, st6⟩ := getS2 X4 hx hZ hown (host := "") (Or.inl (hw _ (own_w 93 rfl))) Via.refl e4 f5 (g := (mkF m 47 #[rv a0, iv 1, iv cc] [(.int cc), (.int 1), (.ref a0)])) rfl (hb hby d20_47)
  obtain ⟨cl7, Ar7, qk7, Sz7, Ng7, Hs7, Gs7⟩ := id V4
  have hin7 : ¬ ((1 : Int32) < 0 ∨ cl7.slots.size ≤ ((1 : Int32)).toNatClampNeg) := inb_of Sz7 ⟨by decide, by decide⟩
  obtain ⟨T8, h8, X8, e8, W8, st8⟩ := stB X6 hx hZ e6 Ar7 (j := (1 : Int32)) hin7 (g := (mkF m 52 #[rv a0, iv 1, iv cc] [(.int ((cc >>> ((8 : Int32) &&& 31))).toInt8.toInt32), (.int 1), (.ref a0)])) rfl rfl (hb hby d20_52)
  have N8 := Fr.snoc X8 N4 hge
  have Z8 : n0 ≤ h8.size := Nat.le_trans Z4 (Nat.le_of_eq W8.size.symm)
  have K8 : Keep h0 h8 [a0] := K4.wr W8 (Or.inl (List.mem_of_getElem? (i := 0) rfl))
  have V8 : Arv Z h8 a0 ka .byte (4 : Int32) [(.int (nar .byte ((cc >>> ((0 : Int32) &&& 31))).toInt8.toInt32)), (.int (nar .byte ((cc >>> ((8 : Int32) &&& 31))).toInt8.toInt32)), (.int (0 : Int32)), (.int (0 : Int32))] (.int (0 : Int32)) := Arv.set Ar7 qk7 Sz7 Ng7 Hs7 Gs7 (fits_nar_byte _) W8 1 rfl (Nat.le_of_ble_eq_true rfl)
  have S9 : ∀ t, oS p e below T8 (mkF m 53 #[rv a0, iv 1, iv cc] []) t → oS p e below s₁ (mkF m 0 #[rv a0, iv 0, iv cc] []) t := fun t k => id (by
    show oS p e below s₁ (mkF m 0 #[rv a0, iv 0, iv cc] []) _
    refine st1 _ ?_
    refine XS.ifYes X1.here hx rfl (pc0 := 3) (pc' := 28) rfl (hb hby d20_3) rfl (XT.i0_ne_t (by decide)) (by decide) (by decide) ?_
    refine XS.iloadN X1.here hx rfl (hb hby d20_28) rfl ?_
    refine XT.iconstV X1.here hx rfl (1 : Int32) (hb hby d20_29) (by decide) ?_
    refine XT.ishl X1.here hx rfl (hb hby d20_30) rfl ?_
    refine XS.istoreN X1.here hx rfl (hb hby d20_31) rfl (l' := #[rv a0, iv 0, iv cc]) rfl ?_
    refine XS.aloadN X1.here hx rfl (hb hby d20_32) rfl rfl ?_
    refine XS.iloadN X1.here hx rfl (hb hby d20_33) rfl ?_
    refine XT.iincV X1.here hx rfl (1 : Int32) (hb hby d20_34) (by decide) rfl (l' := #[rv a0, iv 1, iv cc]) rfl ?_
    refine XS.iloadN X1.here hx rfl (hb hby d20_37) rfl ?_
    refine st2 _ ?_
    refine XT.ishr X2.here hx rfl (hb hby d20_41) rfl ?_
    refine XT.i2b X2.here hx rfl (hb hby d20_42) rfl ?_
    refine st4 _ ?_
    refine XS.aloadN X4.here hx rfl (hb hby d20_44) rfl rfl ?_
    refine XS.iloadN X4.here hx rfl (hb hby d20_45) rfl ?_
    refine XS.iloadN X4.here hx rfl (hb hby d20_46) rfl ?_
    refine st6 _ ?_
    refine XT.ishr X6.here hx rfl (hb hby d20_50) rfl ?_
    refine XT.i2b X6.here hx rfl (hb hby d20_51) rfl ?_
    show oS p e below T6 (mkF m 52 #[rv a0, iv 1, iv cc] [(.int ((cc >>> ((8 : Int32) &&& 31))).toInt8.toInt32), (.int 1), (.ref a0)]) _
    refine st8 _ ?_
    exact k)
  obtain ⟨fs, hr, hrun, hended, hW, hsame⟩ := X8.leave (v := none) (fun _ => rfl)
  refine ⟨_, _, pre0 _ (S9 _ ?_), hrun, hended, _, _, rfl, ?_, ⟨_, rfl⟩, hW, hsame.mono (by decide) (by decide)⟩
  · exact X8.returnOut hx Bd.returns (hb hby d20_53) hr
  · show QrmPut_2_0 Z a0 ka cc h0 n0 _ T8.heap _
    rw [e8]
    exact ⟨rfl, N8, K8, V8⟩
def QrmPut_2_1 (Z : State) (a0 : Addr) (ka : ClassId) (cc : Int32) (c0 : Int32) (h0 : Heap) (n0 : Nat) (v : Option Value) (h : Heap) (L : List Loc) : Prop := v = none ∧ Fr n0 L ∧ Keep h0 h [a0] ∧ Arv Z h a0 ka .byte (4 : Int32) [(.int (own_lo c0)), (.int (own_hi c0)), (.int (own_lo cc)), (.int (own_hi cc))] (.int (0 : Int32))
set_option maxRecDepth 65536 in
set_option maxHeartbeats 40000000 in
theorem rmPut_2_1 (l : Launch) (Z : State) (av0 : Array Value) (hw : ∀ d ∈ tables_1, d.before av0 Z = true) (ws : List Jvm.Cond) (a0 : Addr) (ka : ClassId) (cc : Int32) (c0 : Int32) (h0 : Heap) (n0 : Nat) (Z0 : n0 ≤ h0.size) (hA : Arv Z h0 a0 ka .byte (4 : Int32) [(.int (own_lo c0)), (.int (own_hi c0)), (.int (0 : Int32)), (.int (0 : Int32))] (.int (0 : Int32))) (hge : n0 ≤ a0) (sA : Sta Z h0 "java/lang/StringUTF16" "$assertionsDisabled" "Z" (.int (1 : Int32))) (sH : Sta Z h0 "java/lang/StringUTF16" "HI_BYTE_SHIFT" "I" (.int (0 : Int32))) (sL : Sta Z h0 "java/lang/StringUTF16" "LO_BYTE_SHIFT" "I" (.int (8 : Int32))) :
    own_Met l mN19 jdk_52_method_4_code 3 none ws ({ frames := 0, cells := 0, slots := 0, locals := 0 } : Room) #[(.ref a0), (.int 1), (.int cc)] Z h0 (QrmPut_2_1 Z a0 ka cc c0 h0 n0) := by
  refine MetFree.of_bodySF (plainFor_of_name pn_StringUTF16) hisR ?_
  intro p e s m args below meth c s₁ Bd hml0 hP hK
  obtain ⟨rfl, hZ, hh⟩ := hP
  have hml : c.maxLocals = 3 := hml0
  obtain ⟨hx, hby, hown, hnm, X0, e0⟩ := own_start Bd hml0 hh
  have N0 := Fr.nil n0
  have pre0 : ∀ t, oS p e below s₁ (mkF m 0 #[rv a0, iv 1, iv cc] []) t → Steps p.tables e below (s₁.setTop (entryFrame m #[(.ref a0), (.int 1), (.int cc)] 3)) t := fun t k => castTop (by first | (simp [entryFrame, mkF, argsToLocals, Value.category]; done) | rfl) k
  obtain ⟨T1, X1, e1, st1⟩ := getS2 X0 hx hZ hown (host := "") (Or.inl (hw _ (own_w 91 rfl))) Via.refl e0 sA (g := (mkF m 0 #[rv a0, iv 1, iv cc] [])) rfl (hb hby d20_0)
  obtain ⟨T2, X2, e2, st2⟩ := getS2 X1 hx hZ hown (host := "") (Or.inl (hw _ (own_w 92 rfl))) Via.refl e1 sH (g := (mkF m 38 #[rv a0, iv 3, iv cc] [(.int cc), (.int 2), (.ref a0)])) rfl (hb hby d20_38)
  obtain ⟨cl3, Ar3, qk3, Sz3, Ng3, Hs3, Gs3⟩ := id hA
  have hin3 : ¬ ((2 : Int32) < 0 ∨ cl3.slots.size ≤ ((2 : Int32)).toNatClampNeg) := inb_of Sz3 ⟨by decide, by decide⟩
  obtain ⟨T4, h4, X4, e4, W4, st4⟩ := stB X2 hx hZ e2 Ar3 (j := (2 : Int32)) hin3 (g := (mkF m 43 #[rv a0, iv 3, iv cc] [(.int ((cc >>> ((0 : Int32) &&& 31))).toInt8.toInt32), (.int 2), (.ref a0)])) rfl rfl (hb hby d20_43)
  have N4 := Fr.snoc X4 N0 hge
  have Z4 : n0 ≤ h4.size := Nat.le_trans Z0 (Nat.le_of_eq W4.size.symm)
  have K4 : Keep h0 h4 [a0] := (Keep.refl h0 [a0]).wr W4 (Or.inl (List.mem_of_getElem? (i := 0) rfl))
  have V4 : Arv Z h4 a0 ka .byte (4 : Int32) [(.int (own_lo c0)), (.int (own_hi c0)), (.int (nar .byte ((cc >>> ((0 : Int32) &&& 31))).toInt8.toInt32)), (.int (0 : Int32))] (.int (0 : Int32)) := Arv.set Ar3 qk3 Sz3 Ng3 Hs3 Gs3 (fits_nar_byte _) W4 2 rfl (Nat.le_of_ble_eq_true rfl)
  have f5 := (sL.wr W4)
  obtain ⟨T6, X6, e6, st6⟩ := getS2 X4 hx hZ hown (host := "") (Or.inl (hw _ (own_w 93 rfl))) Via.refl e4 f5 (g := (mkF m 47 #[rv a0, iv 3, iv cc] [(.int cc), (.int 3), (.ref a0)])) rfl (hb hby d20_47)
  obtain ⟨cl7, Ar7, qk7, Sz7, Ng7, Hs7, Gs7⟩ := id V4
  have hin7 : ¬ ((3 : Int32) < 0 ∨ cl7.slots.size ≤ ((3 : Int32)).toNatClampNeg) := inb_of Sz7 ⟨by decide, by decide⟩
  obtain ⟨T8, h8, X8, e8, W8, st8⟩ := stB X6 hx hZ e6 Ar7 (j := (3 : Int32)) hin7 (g := (mkF m 52 #[rv a0, iv 3, iv cc] [(.int ((cc >>> ((8 : Int32) &&& 31))).toInt8.toInt32), (.int 3), (.ref a0)])) rfl rfl (hb hby d20_52)
  have N8 := Fr.snoc X8 N4 hge
  have Z8 : n0 ≤ h8.size := Nat.le_trans Z4 (Nat.le_of_eq W8.size.symm)
  have K8 : Keep h0 h8 [a0] := K4.wr W8 (Or.inl (List.mem_of_getElem? (i := 0) rfl))
  have V8 : Arv Z h8 a0 ka .byte (4 : Int32) [(.int (own_lo c0)), (.int (own_hi c0)), (.int (nar .byte ((cc >>> ((0 : Int32) &&& 31))).toInt8.toInt32)), (.int (nar .byte ((cc >>> ((8 : Int32) &&& 31))).toInt8.toInt32))] (.int (0 : Int32)) := Arv.set Ar7 qk7 Sz7 Ng7 Hs7 Gs7 (fits_nar_byte _) W8 3 rfl (Nat.le_of_ble_eq_true rfl)
  have S9 : ∀ t, oS p e below T8 (mkF m 53 #[rv a0, iv 3, iv cc] []) t → oS p e below s₁ (mkF m 0 #[rv a0, iv 1, iv cc] []) t := fun t k => id (by
    show oS p e below s₁ (mkF m 0 #[rv a0, iv 1, iv cc] []) _
    refine st1 _ ?_
    refine XS.ifYes X1.here hx rfl (pc0 := 3) (pc' := 28) rfl (hb hby d20_3) rfl (XT.i0_ne_t (by decide)) (by decide) (by decide) ?_
    refine XS.iloadN X1.here hx rfl (hb hby d20_28) rfl ?_
    refine XT.iconstV X1.here hx rfl (1 : Int32) (hb hby d20_29) (by decide) ?_
    refine XT.ishl X1.here hx rfl (hb hby d20_30) rfl ?_
    refine XS.istoreN X1.here hx rfl (hb hby d20_31) rfl (l' := #[rv a0, iv 2, iv cc]) rfl ?_
    refine XS.aloadN X1.here hx rfl (hb hby d20_32) rfl rfl ?_
    refine XS.iloadN X1.here hx rfl (hb hby d20_33) rfl ?_
    refine XT.iincV X1.here hx rfl (1 : Int32) (hb hby d20_34) (by decide) rfl (l' := #[rv a0, iv 3, iv cc]) rfl ?_
    refine XS.iloadN X1.here hx rfl (hb hby d20_37) rfl ?_
    refine st2 _ ?_
    refine XT.ishr X2.here hx rfl (hb hby d20_41) rfl ?_
    refine XT.i2b X2.here hx rfl (hb hby d20_42) rfl ?_
    refine st4 _ ?_
    refine XS.aloadN X4.here hx rfl (hb hby d20_44) rfl rfl ?_
    refine XS.iloadN X4.here hx rfl (hb hby d20_45) rfl ?_
    refine XS.iloadN X4.here hx rfl (hb hby d20_46) rfl ?_
    refine st6 _ ?_
    refine XT.ishr X6.here hx rfl (hb hby d20_50) rfl ?_
    refine XT.i2b X6.here hx rfl (hb hby d20_51) rfl ?_
    show oS p e below T6 (mkF m 52 #[rv a0, iv 3, iv cc] [(.int ((cc >>> ((8 : Int32) &&& 31))).toInt8.toInt32), (.int 3), (.ref a0)]) _
    refine st8 _ ?_
    exact k)
  obtain ⟨fs, hr, hrun, hended, hW, hsame⟩ := X8.leave (v := none) (fun _ => rfl)
  refine ⟨_, _, pre0 _ (S9 _ ?_), hrun, hended, _, _, rfl, ?_, ⟨_, rfl⟩, hW, hsame.mono (by decide) (by decide)⟩
  · exact X8.returnOut hx Bd.returns (hb hby d20_53) hr
  · show QrmPut_2_1 Z a0 ka cc c0 h0 n0 _ T8.heap _
    rw [e8]
    exact ⟨rfl, N8, K8, V8⟩
def QrmTb_2 (Z : State) (a0 : Addr) (ka : ClassId) (c0 : Int32) (c1 : Int32) (h0 : Heap) (n0 : Nat) (v : Option Value) (h : Heap) (L : List Loc) : Prop := ∃ (b : Addr) (k : ClassId), v = some (.ref b) ∧ Fr n0 L ∧ h0.size ≤ b ∧ Keep h0 h [] ∧ Arv Z h b k .byte (4 : Int32) [(.int (own_lo c0)), (.int (own_hi c0)), (.int (own_lo c1)), (.int (own_hi c1))] (.int (0 : Int32))
set_option maxRecDepth 65536 in
set_option maxHeartbeats 40000000 in
theorem rmTb_2 (l : Launch) (Z : State) (av0 : Array Value) (hw : ∀ d ∈ tables_1, d.before av0 Z = true) (ws : List Jvm.Cond) (a0 : Addr) (ka : ClassId) (c0 : Int32) (c1 : Int32) (h0 : Heap) (n0 : Nat) (Z0 : n0 ≤ h0.size) (hA : Arv Z h0 a0 ka .char (2 : Int32) [(.int c0), (.int c1)] (.int (0 : Int32))) (sA : Sta Z h0 "java/lang/StringUTF16" "$assertionsDisabled" "Z" (.int (1 : Int32))) (sH : Sta Z h0 "java/lang/StringUTF16" "HI_BYTE_SHIFT" "I" (.int (0 : Int32))) (sL : Sta Z h0 "java/lang/StringUTF16" "LO_BYTE_SHIFT" "I" (.int (8 : Int32))) :
    own_Met l mN20 jdk_52_method_14_code 5 (some (.array .byte)) ws ({ frames := 2, cells := 1, slots := 4, locals := 24 } : Room) #[(.ref a0), (.int 0), (.int 2)] Z h0 (QrmTb_2 Z a0 ka c0 c1 h0 n0) := by
  refine MetFree.of_bodySF (plainFor_of_name pn_StringUTF16) hisR ?_
  intro p e s m args below meth c s₁ Bd hml0 hP hK
  obtain ⟨rfl, hZ, hh⟩ := hP
  have hml : c.maxLocals = 5 := hml0
  obtain ⟨hx, hby, hown, hnm, X0, e0⟩ := own_start Bd hml0 hh
  have N0 := Fr.nil n0
  have pre0 : ∀ t, oS p e below s₁ (mkF m 0 #[rv a0, iv 0, iv 2, .unset, .unset] []) t → Steps p.tables e below (s₁.setTop (entryFrame m #[(.ref a0), (.int 0), (.int 2)] 5)) t := fun t k => castTop (by first | (simp [entryFrame, mkF, argsToLocals, Value.category]; done) | rfl) k
  obtain ⟨_, T1, Lc1, X1, hQ1, st1⟩ := own_callS (W := 0) (y := mN18) X0 hx hZ hown (hw _ (own_w 81 rfl)) (hw _ (own_w 82 rfl)) (hw _ (own_w 40 rfl)) (hw _ (own_w 83 rfl)) (by decide) (rmNbf_2 l Z av0 hw []  h0 n0 Z0 ) (by decide) (by decide) (g := (mkF m 1 #[rv a0, iv 0, iv 2, .unset, .unset] [(.int 2)])) rfl (by rw [hml]; rfl) (argsL := [(.int 2)]) (rest := []) (lenOf pd__I_B rfl) rfl (hb hby d17_1) rfl e0 (by decide : 0 + 1 ≤ _) (by decide : 0 + 4 ≤ _)
  obtain ⟨b1, kb1, rfl, N1q, gb1, K1, V1⟩ := hQ1
  have N1 := Fr.app N0 N1q
  have e1 : T1.heap = T1.heap := rfl
  have ne_a0_b1 : a0 ≠ b1 := Nat.ne_of_lt (Nat.lt_of_lt_of_le hA.lt gb1)
  have ge_b1 : n0 ≤ b1 := Nat.le_trans Z0 gb1
  have sz_b1 : h0.size ≤ b1 := gb1
  have Zk1 : n0 ≤ T1.heap.size := Nat.le_trans Z0 K1.1
  have Kk1 : Keep h0 T1.heap [] := (Keep.refl h0 []).trans K1 all0
  have f2 := (hA.keep K1 nin0)
  obtain ⟨cl3, Ar3, qk3, Sz3, Ng3, Hs3, Gs3⟩ := id f2
  have hin3 : ¬ ((0 : Int32) < 0 ∨ cl3.slots.size ≤ ((0 : Int32)).toNatClampNeg) := inb_of Sz3 ⟨by decide, by decide⟩
  have hat3 : cl3.slots[((0 : Int32)).toNatClampNeg]? = some (.int c0) := Hs3.at hin3 rfl
  have f4 := (own_stak sA K1 all0)
  have f5 := (own_stak sH K1 all0)
  have f6 := (own_stak sL K1 all0)
  obtain ⟨_, T7, Lc7, X7, hQ7, st7⟩ := own_callS (W := 0) (y := mN19) X1 hx hZ hown (hw _ (own_w 88 rfl)) (hw _ (own_w 89 rfl)) (hw _ (own_w 40 rfl)) (hw _ (own_w 90 rfl)) (by decide) (rmPut_2_0 l Z av0 hw [] b1 kb1 c0  T1.heap n0 Zk1 V1 ge_b1 f4 f5 f6) (by decide) (by decide) (g := (mkF m 20 #[rv a0, iv 0, iv 2, rv b1, iv 0] [(.int c0), (.int 0), (.ref b1)])) rfl (by rw [hml]; rfl) (argsL := [(.ref b1), (.int 0), (.int c0)]) (rest := []) (lenOf pd__BII_V rfl) rfl (hb hby d17_20) rfl e1 (by decide : 1 + 0 ≤ _) (by decide : 4 + 0 ≤ _)
  obtain ⟨rfl, N7q, K7, V7⟩ := hQ7
  have N7 := Fr.app N1 N7q
  have e7 : T7.heap = T7.heap := rfl
  have Zk7 : n0 ≤ T7.heap.size := Nat.le_trans Zk1 K7.1
  have Kk7 : Keep h0 T7.heap [] := Kk1.trans K7 (allS (Or.inr sz_b1) all0)
  have f8 := (f2.keep K7 (ninS ne_a0_b1 nin0))
  obtain ⟨cl9, Ar9, qk9, Sz9, Ng9, Hs9, Gs9⟩ := id f8
  have hin9 : ¬ ((1 : Int32) < 0 ∨ cl9.slots.size ≤ ((1 : Int32)).toNatClampNeg) := inb_of Sz9 ⟨by decide, by decide⟩
  have hat9 : cl9.slots[((1 : Int32)).toNatClampNeg]? = some (.int c1) := Hs9.at hin9 rfl
  have f10 := (own_stak f4 K7 (allS (own_arns V1) all0))
  have f11 := (own_stak f5 K7 (allS (own_arns V1) all0))
  have f12 := (own_stak f6 K7 (allS (own_arns V1) all0))
  obtain ⟨_, T13, Lc13, X13, hQ13, st13⟩ := own_callS (W := 0) (y := mN19) X7 hx hZ hown (hw _ (own_w 88 rfl)) (hw _ (own_w 89 rfl)) (hw _ (own_w 40 rfl)) (hw _ (own_w 90 rfl)) (by decide) (rmPut_2_1 l Z av0 hw [] b1 kb1 c1 c0 T7.heap n0 Zk7 V7 ge_b1 f10 f11 f12) (by decide) (by decide) (g := (mkF m 20 #[rv a0, iv 1, iv 2, rv b1, iv 1] [(.int c1), (.int 1), (.ref b1)])) rfl (by rw [hml]; rfl) (argsL := [(.ref b1), (.int 1), (.int c1)]) (rest := []) (lenOf pd__BII_V rfl) rfl (hb hby d17_20) rfl e7 (by decide : 1 + 0 ≤ _) (by decide : 4 + 0 ≤ _)
  obtain ⟨rfl, N13q, K13, V13⟩ := hQ13
  have N13 := Fr.app N7 N13q
  have e13 : T13.heap = T13.heap := rfl
  have Zk13 : n0 ≤ T13.heap.size := Nat.le_trans Zk7 K13.1
  have Kk13 : Keep h0 T13.heap [] := Kk7.trans K13 (allS (Or.inr sz_b1) all0)
  have S14 : ∀ t, oS p e below T13 (mkF m 33 #[rv a0, iv 2, iv 2, rv b1, iv 2] [(.ref b1)]) t → oS p e below s₁ (mkF m 0 #[rv a0, iv 0, iv 2, .unset, .unset] []) t := fun t k => id (by
    show oS p e below s₁ (mkF m 0 #[rv a0, iv 0, iv 2, .unset, .unset] []) _
    refine XS.iloadN X0.here hx rfl (hb hby d17_0) rfl ?_
    refine st1 _ ?_
    refine XS.astoreN X1.here hx rfl (hb hby d17_4) rfl rfl (l' := #[rv a0, iv 0, iv 2, rv b1, .unset]) rfl ?_
    refine XT.iconstV X1.here hx rfl (0 : Int32) (hb hby d17_5) (by decide) ?_
    refine XS.istore X1.here hx rfl (hb hby d17_6) rfl (l' := #[rv a0, iv 0, iv 2, rv b1, iv 0]) rfl ?_
    refine XS.iload X1.here hx rfl (hb hby d17_8) rfl ?_
    refine XS.iloadN X1.here hx rfl (hb hby d17_10) rfl ?_
    refine XS.icmpNo X1.here hx rfl (hb hby d17_11) rfl (XT.ii_ge_f (by decide)) ?_
    refine XS.aloadN X1.here hx rfl (hb hby d17_14) rfl rfl ?_
    refine XS.iload X1.here hx rfl (hb hby d17_15) rfl ?_
    refine XS.aloadN X1.here hx rfl (hb hby d17_17) rfl rfl ?_
    refine XS.iloadN X1.here hx rfl (hb hby d17_18) rfl ?_
    refine X1.caload hx (j := (0 : Int32)) (v := (.int c0)) (by rw [e1]; exact Ar3.1) (State.isArrayOf_alike hZ.alike Ar3.2.1) Ar3.2.2 hin3 hat3 (g := (mkF m 19 #[rv a0, iv 0, iv 2, rv b1, iv 0] [(.int 0), (.ref a0), (.int 0), (.ref b1)])) rfl rfl (hb hby d17_19) _ ?_
    refine st7 _ ?_
    refine XT.iincV X7.here hx rfl (1 : Int32) (hb hby d17_23) (by decide) rfl (l' := #[rv a0, iv 1, iv 2, rv b1, iv 0]) rfl ?_
    refine XT.iincV X7.here hx rfl (1 : Int32) (hb hby d17_26) (by decide) rfl (l' := #[rv a0, iv 1, iv 2, rv b1, iv 1]) rfl ?_
    refine XS.goto X7.here hx rfl (pc0 := 29) (pc' := 8) rfl (hb hby d17_29) (by decide) (by decide) ?_
    refine XS.iload X7.here hx rfl (hb hby d17_8) rfl ?_
    refine XS.iloadN X7.here hx rfl (hb hby d17_10) rfl ?_
    refine XS.icmpNo X7.here hx rfl (hb hby d17_11) rfl (XT.ii_ge_f (by decide)) ?_
    show oS p e below T7 (mkF m 14 #[rv a0, iv 1, iv 2, rv b1, iv 1] []) _
    refine XS.aloadN X7.here hx rfl (hb hby d17_14) rfl rfl ?_
    refine XS.iload X7.here hx rfl (hb hby d17_15) rfl ?_
    refine XS.aloadN X7.here hx rfl (hb hby d17_17) rfl rfl ?_
    refine XS.iloadN X7.here hx rfl (hb hby d17_18) rfl ?_
    refine X7.caload hx (j := (1 : Int32)) (v := (.int c1)) (by rw [e7]; exact Ar9.1) (State.isArrayOf_alike hZ.alike Ar9.2.1) Ar9.2.2 hin9 hat9 (g := (mkF m 19 #[rv a0, iv 1, iv 2, rv b1, iv 1] [(.int 1), (.ref a0), (.int 1), (.ref b1)])) rfl rfl (hb hby d17_19) _ ?_
    refine st13 _ ?_
    refine XT.iincV X13.here hx rfl (1 : Int32) (hb hby d17_23) (by decide) rfl (l' := #[rv a0, iv 2, iv 2, rv b1, iv 1]) rfl ?_
    refine XT.iincV X13.here hx rfl (1 : Int32) (hb hby d17_26) (by decide) rfl (l' := #[rv a0, iv 2, iv 2, rv b1, iv 2]) rfl ?_
    refine XS.goto X13.here hx rfl (pc0 := 29) (pc' := 8) rfl (hb hby d17_29) (by decide) (by decide) ?_
    refine XS.iload X13.here hx rfl (hb hby d17_8) rfl ?_
    refine XS.iloadN X13.here hx rfl (hb hby d17_10) rfl ?_
    refine XS.icmpYes X13.here hx rfl (pc0 := 11) (pc' := 32) rfl (hb hby d17_11) rfl (XT.ii_ge_t (by decide)) (by decide) (by decide) ?_
    refine XS.aloadN X13.here hx rfl (hb hby d17_32) rfl rfl ?_
    exact k)
  obtain ⟨fs, hr, hrun, hended, hW, hsame⟩ := X13.leave (v := some (.ref b1)) (fun h => by rw [Bd.returns] at h; cases h)
  refine ⟨_, _, pre0 _ (S14 _ ?_), hrun, hended, _, _, rfl, ?_, ⟨_, rfl⟩, hW, hsame.mono (by decide) (by decide)⟩
  · jvm_step X13.here [X13.here.top, hx, (hb hby d17_33), X13.method', Bd.returns, Value.isRef, FieldType.isReference]
    first | (intro acts; rw [hr _ acts rfl rfl rfl]) | rw [hr _ _ rfl rfl rfl]
    exact Steps.refl _
  · show QrmTb_2 Z a0 ka c0 c1 h0 n0 _ T13.heap _
    rw [e13]
    exact ⟨_, _, rfl, N13, sz_b1, Kk13, V13⟩
def QrmCp3_2_0 (Z : State) (a0 : Addr) (ka : ClassId) (c0 : Int32) (c1 : Int32) (h0 : Heap) (n0 : Nat) (v : Option Value) (h : Heap) (L : List Loc) : Prop := ∃ (b : Addr) (k : ClassId), v = some (.ref b) ∧ Fr n0 L ∧ h0.size ≤ b ∧ Keep h0 h [] ∧ Arv Z h b k .byte (4 : Int32) [(.int (own_lo c0)), (.int (own_hi c0)), (.int (own_lo c1)), (.int (own_hi c1))] (.int (0 : Int32))
set_option maxRecDepth 65536 in
set_option maxHeartbeats 40000000 in
theorem rmCp3_2_0 (l : Launch) (Z : State) (av0 : Array Value) (hw : ∀ d ∈ tables_1, d.before av0 Z = true) (ws : List Jvm.Cond) (a0 : Addr) (ka : ClassId) (c0 : Int32) (c1 : Int32) (h0 : Heap) (n0 : Nat) (Z0 : n0 ≤ h0.size) (hA : Arv Z h0 a0 ka .char (2 : Int32) [(.int c0), (.int c1)] (.int (0 : Int32))) (hbg : (255 : Int32) < c0) (hg : 0 ≤ c0.toInt ∧ c0.toInt < 65536) (sA : Sta Z h0 "java/lang/StringUTF16" "$assertionsDisabled" "Z" (.int (1 : Int32))) (sH : Sta Z h0 "java/lang/StringUTF16" "HI_BYTE_SHIFT" "I" (.int (0 : Int32))) (sL : Sta Z h0 "java/lang/StringUTF16" "LO_BYTE_SHIFT" "I" (.int (8 : Int32))) :
    own_Met l mN21 jdk_52_method_16_code 6 (some (.array .byte)) ws ({ frames := 3, cells := 2, slots := 6, locals := 40 } : Room) #[(.ref a0), (.int 0), (.int 2)] Z h0 (QrmCp3_2_0 Z a0 ka c0 c1 h0 n0) := by
  refine MetFree.of_bodySF (plainFor_of_name pn_StringUTF16) hisR ?_
  intro p e s m args below meth c s₁ Bd hml0 hP hK
  obtain ⟨rfl, hZ, hh⟩ := hP
  have hml : c.maxLocals = 6 := hml0
  obtain ⟨hx, hby, hown, hnm, X0, e0⟩ := own_start Bd hml0 hh
  have N0 := Fr.nil n0
  have pre0 : ∀ t, oS p e below s₁ (mkF m 0 #[rv a0, iv 0, iv 2, .unset, .unset, .unset] []) t → Steps p.tables e below (s₁.setTop (entryFrame m #[(.ref a0), (.int 0), (.int 2)] 6)) t := fun t k => castTop (by first | (simp [entryFrame, mkF, argsToLocals, Value.category]; done) | rfl) k
  obtain ⟨T1, h1, k1, X1, e1, E1, A1, st1⟩ := newP X0 hx hZ (hw _ (own_w 16 rfl)) e0 (g := (mkF m 1 #[rv a0, iv 0, iv 2, .unset, .unset, .unset] [(.int 2)])) rfl (hb hby d7_1) rfl (by decide) (cap := 2) (by decide) (by decide) (by decide) (by decide)
  obtain ⟨b1, g1⟩ : ∃ z, z = h0.size := ⟨_, rfl⟩
  rw [← g1] at A1 st1
  have ne_a0_b1 : a0 ≠ b1 := Nat.ne_of_lt (Nat.lt_of_lt_of_le hA.lt (Nat.le_of_eq g1.symm))
  have ge_b1 : n0 ≤ b1 := Nat.le_trans Z0 (Nat.le_of_eq g1.symm)
  have sz_b1 : h0.size ≤ b1 := Nat.le_of_eq g1.symm
  have Z1 : n0 ≤ h1.size := Nat.le_trans Z0 E1.1
  have K1 : Keep h0 h1 [] := (Keep.refl h0 []).ext E1
  have V1 : Arv Z h1 b1 k1 .byte (2 : Int32) [(.int (0 : Int32)), (.int (0 : Int32))] (.int (0 : Int32)) := (Arv.new A1 (by decide)).pad (pad_rep [] (.int (0 : Int32)) 2)
  have f2 := (hA.ext E1)
  obtain ⟨_, T3, Lc3, X3, hQ3, st3⟩ := own_callS (W := 0) (y := mN16) X1 hx hZ hown (hw _ (own_w 42 rfl)) (hw _ (own_w 43 rfl)) (hw _ (own_w 40 rfl)) (hw _ (own_w 44 rfl)) (by decide) (rmCp5_2_0 l Z av0 hw [] a0 b1 ka k1 c0 c1 h1 n0 Z1 f2 V1 ne_a0_b1 ge_b1 hbg) (by decide) (by decide) (g := (mkF m 9 #[rv a0, iv 0, iv 2, rv b1, .unset, .unset] [(.int 2), (.int 0), (.ref b1), (.int 0), (.ref a0)])) rfl (by rw [hml]; rfl) (argsL := [(.ref a0), (.int 0), (.ref b1), (.int 0), (.int 2)]) (rest := []) (lenOf pd__CI_BII_I rfl) rfl (hb hby d7_9) rfl e1 (by decide : 1 + 0 ≤ _) (by decide : 2 + 0 ≤ _)
  obtain ⟨rfl, N3q, K3, V3⟩ := hQ3
  have N3 := Fr.app N0 N3q
  have e3 : T3.heap = T3.heap := rfl
  have Zk3 : n0 ≤ T3.heap.size := Nat.le_trans Z1 K3.1
  have Kk3 : Keep h0 T3.heap [] := K1.trans K3 (allS (Or.inr sz_b1) all0)
  have f4 := (f2.keep K3 (ninS ne_a0_b1 nin0))
  have f5 := (own_stak (sA.ext E1) K3 (allS (own_arns V1) all0))
  have f6 := (own_stak (sH.ext E1) K3 (allS (own_arns V1) all0))
  have f7 := (own_stak (sL.ext E1) K3 (allS (own_arns V1) all0))
  obtain ⟨_, T8, Lc8, X8, hQ8, st8⟩ := own_callS (W := 0) (y := mN20) X3 hx hZ hown (hw _ (own_w 78 rfl)) (hw _ (own_w 79 rfl)) (hw _ (own_w 40 rfl)) (hw _ (own_w 80 rfl)) (by decide) (rmTb_2 l Z av0 hw [] a0 ka c0 c1 T3.heap n0 Zk3 f4 f5 f6 f7) (by decide) (by decide) (g := (mkF m 23 #[rv a0, iv 0, iv 2, rv b1, iv 0, .unset] [(.int 2), (.int 0), (.ref a0)])) rfl (by rw [hml]; rfl) (argsL := [(.ref a0), (.int 0), (.int 2)]) (rest := []) (lenOf pd__CII_B rfl) rfl (hb hby d7_23) rfl e3 (by decide : 1 + 1 ≤ _) (by decide : 2 + 4 ≤ _)
  obtain ⟨b8, kb8, rfl, N8q, gb8, K8, V8⟩ := hQ8
  have N8 := Fr.app N3 N8q
  have e8 : T8.heap = T8.heap := rfl
  have ne_a0_b8 : a0 ≠ b8 := Nat.ne_of_lt (Nat.lt_of_lt_of_le f4.lt gb8)
  have ne_b1_b8 : b1 ≠ b8 := Nat.ne_of_lt (Nat.lt_of_lt_of_le V3.lt gb8)
  have ge_b8 : n0 ≤ b8 := Nat.le_trans Zk3 gb8
  have sz_b8 : h0.size ≤ b8 := Nat.le_trans Kk3.1 gb8
  have Zk8 : n0 ≤ T8.heap.size := Nat.le_trans Zk3 K8.1
  have Kk8 : Keep h0 T8.heap [] := Kk3.trans K8 all0
  have f9 := (own_stak f5 K8 all0)
  have f10 := (own_stak f6 K8 all0)
  have f11 := (own_stak f7 K8 all0)
  obtain ⟨_, T12, Lc12, X12, hQ12, st12⟩ := own_callS (W := 0) (y := mN12) X8 hx hZ hown (hw _ (own_w 94 rfl)) (hw _ (own_w 95 rfl)) (hw _ (own_w 40 rfl)) (hw _ (own_w 96 rfl)) (by decide) (rmGc l Z av0 hw [] b8 kb8 (4 : Int32) [(.int (own_lo c0)), (.int (own_hi c0)), (.int (own_lo c1)), (.int (own_hi c1))] (0 : Int32) (own_lo c0) (own_hi c0) T8.heap n0 Zk8 V8 f9 f10 f11 (by decide) (by decide) rfl rfl) (by decide) (by decide) (g := (mkF m 32 #[rv a0, iv 0, iv 2, rv b1, iv 0, rv b8] [(.int 0), (.ref b8)])) rfl (by rw [hml]; rfl) (argsL := [(.ref b8), (.int 0)]) (rest := []) (lenOf pd__BI_C rfl) rfl (hb hby d7_32) rfl e8 (by decide : 2 + 0 ≤ _) (by decide : 6 + 0 ≤ _)
  obtain ⟨rfl, N12q, hh12⟩ := hQ12
  have N12 := Fr.app N8 N12q
  have e12 : T12.heap = T8.heap := hh12
  have S13 : ∀ t, oS p e below T12 (mkF m 56 #[rv a0, iv 0, iv 2, rv b1, iv 0, rv b8] [(.ref b8)]) t → oS p e below s₁ (mkF m 0 #[rv a0, iv 0, iv 2, .unset, .unset, .unset] []) t := fun t k => id (by
    show oS p e below s₁ (mkF m 0 #[rv a0, iv 0, iv 2, .unset, .unset, .unset] []) _
    refine XS.iloadN X0.here hx rfl (hb hby d7_0) rfl ?_
    refine st1 _ ?_
    refine XS.astoreN X1.here hx rfl (hb hby d7_3) rfl rfl (l' := #[rv a0, iv 0, iv 2, rv b1, .unset, .unset]) rfl ?_
    refine XS.aloadN X1.here hx rfl (hb hby d7_4) rfl rfl ?_
    refine XS.iloadN X1.here hx rfl (hb hby d7_5) rfl ?_
    refine XS.aloadN X1.here hx rfl (hb hby d7_6) rfl rfl ?_
    refine XT.iconstV X1.here hx rfl (0 : Int32) (hb hby d7_7) (by decide) ?_
    refine XS.iloadN X1.here hx rfl (hb hby d7_8) rfl ?_
    refine st3 _ ?_
    refine XS.istore X3.here hx rfl (hb hby d7_12) rfl (l' := #[rv a0, iv 0, iv 2, rv b1, iv 0, .unset]) rfl ?_
    refine XS.iload X3.here hx rfl (hb hby d7_14) rfl ?_
    refine XS.iloadN X3.here hx rfl (hb hby d7_16) rfl ?_
    refine XS.icmpNo X3.here hx rfl (hb hby d7_17) rfl (XT.ii_eq_f (by decide)) ?_
    refine XS.aloadN X3.here hx rfl (hb hby d7_20) rfl rfl ?_
    refine XS.iloadN X3.here hx rfl (hb hby d7_21) rfl ?_
    refine XS.iloadN X3.here hx rfl (hb hby d7_22) rfl ?_
    refine st8 _ ?_
    refine XS.astore X8.here hx rfl (hb hby d7_26) rfl rfl (l' := #[rv a0, iv 0, iv 2, rv b1, iv 0, rv b8]) rfl ?_
    refine XS.aload X8.here hx rfl (hb hby d7_28) rfl rfl ?_
    refine XS.iload X8.here hx rfl (hb hby d7_30) rfl ?_
    show oS p e below T8 (mkF m 32 #[rv a0, iv 0, iv 2, rv b1, iv 0, rv b8] [(.int 0), (.ref b8)]) _
    refine st12 _ ?_
    refine XT.sipushV X12.here hx rfl (255 : Int32) (hb hby d7_35) (by decide) ?_
    refine XS.icmpYes X12.here hx rfl (pc0 := 38) (pc' := 54) rfl (hb hby d7_38) rfl (XT.ii_gt_t (by rw [own_gcv c0 hg.1 hg.2]; exact hbg)) (by decide) (by decide) ?_
    refine XS.aload X12.here hx rfl (hb hby d7_54) rfl rfl ?_
    exact k)
  obtain ⟨fs, hr, hrun, hended, hW, hsame⟩ := X12.leave (v := some (.ref b8)) (fun h => by rw [Bd.returns] at h; cases h)
  refine ⟨_, _, pre0 _ (S13 _ ?_), hrun, hended, _, _, rfl, ?_, ⟨_, rfl⟩, hW, hsame.mono (by decide) (by decide)⟩
  · jvm_step X12.here [X12.here.top, hx, (hb hby d7_56), X12.method', Bd.returns, Value.isRef, FieldType.isReference]
    first | (intro acts; rw [hr _ acts rfl rfl rfl]) | rw [hr _ _ rfl rfl rfl]
    exact Steps.refl _
  · show QrmCp3_2_0 Z a0 ka c0 c1 h0 n0 _ T12.heap _
    rw [e12]
    exact ⟨_, _, rfl, N12, sz_b8, Kk8, V8⟩
def QrmCp5_2_1 (Z : State) (a0 : Addr) (a2 : Addr) (ka : ClassId) (kb : ClassId) (c0 : Int32) (c1 : Int32) (h0 : Heap) (n0 : Nat) (v : Option Value) (h : Heap) (L : List Loc) : Prop := v = some (.int (1 : Int32)) ∧ Fr n0 L ∧ Keep h0 h [a2] ∧ Arv Z h a2 kb .byte (2 : Int32) [(.int (own_b c0)), (.int (0 : Int32))] (.int (0 : Int32))
set_option maxRecDepth 65536 in
set_option maxHeartbeats 40000000 in
theorem rmCp5_2_1 (l : Launch) (Z : State) (av0 : Array Value) (hw : ∀ d ∈ tables_1, d.before av0 Z = true) (ws : List Jvm.Cond) (a0 : Addr) (a2 : Addr) (ka : ClassId) (kb : ClassId) (c0 : Int32) (c1 : Int32) (h0 : Heap) (n0 : Nat) (Z0 : n0 ≤ h0.size) (hA : Arv Z h0 a0 ka .char (2 : Int32) [(.int c0), (.int c1)] (.int (0 : Int32))) (hB : Arv Z h0 a2 kb .byte (2 : Int32) [(.int (0 : Int32)), (.int (0 : Int32))] (.int (0 : Int32))) (hne : a0 ≠ a2) (hge : n0 ≤ a2) (hc0 : ¬ (255 : Int32) < c0) (hbg : (255 : Int32) < c1) :
    own_Met l mN16 jdk_52_method_21_code 7 (some .int) ws ({ frames := 0, cells := 0, slots := 0, locals := 0 } : Room) #[(.ref a0), (.int 0), (.ref a2), (.int 0), (.int 2)] Z h0 (QrmCp5_2_1 Z a0 a2 ka kb c0 c1 h0 n0) := by
  refine MetFree.of_bodySF (plainFor_of_name pn_StringUTF16) hisR ?_
  intro p e s m args below meth c s₁ Bd hml0 hP hK
  obtain ⟨rfl, hZ, hh⟩ := hP
  have hml : c.maxLocals = 7 := hml0
  obtain ⟨hx, hby, hown, hnm, X0, e0⟩ := own_start Bd hml0 hh
  have N0 := Fr.nil n0
  have pre0 : ∀ t, oS p e below s₁ (mkF m 0 #[rv a0, iv 0, rv a2, iv 0, iv 2, .unset, .unset] []) t → Steps p.tables e below (s₁.setTop (entryFrame m #[(.ref a0), (.int 0), (.ref a2), (.int 0), (.int 2)] 7)) t := fun t k => castTop (by first | (simp [entryFrame, mkF, argsToLocals, Value.category]; done) | rfl) k
  obtain ⟨cl1, Ar1, qk1, Sz1, Ng1, Hs1, Gs1⟩ := id hA
  have hin1 : ¬ ((0 : Int32) < 0 ∨ cl1.slots.size ≤ ((0 : Int32)).toNatClampNeg) := inb_of Sz1 ⟨by decide, by decide⟩
  have hat1 : cl1.slots[((0 : Int32)).toNatClampNeg]? = some (.int c0) := Hs1.at hin1 rfl
  obtain ⟨cl2, Ar2, qk2, Sz2, Ng2, Hs2, Gs2⟩ := id hB
  have hin2 : ¬ ((0 : Int32) < 0 ∨ cl2.slots.size ≤ ((0 : Int32)).toNatClampNeg) := inb_of Sz2 ⟨by decide, by decide⟩
  obtain ⟨T3, h3, X3, e3, W3, st3⟩ := stB X0 hx hZ e0 Ar2 (j := (0 : Int32)) hin2 (g := (mkF m 31 #[rv a0, iv 0, rv a2, iv 0, iv 2, iv 0, iv c0] [(.int (c0).toInt8.toInt32), (.int 0), (.ref a2)])) rfl rfl (hb hby d8_31)
  have N3 := Fr.snoc X3 N0 hge
  have Z3 : n0 ≤ h3.size := Nat.le_trans Z0 (Nat.le_of_eq W3.size.symm)
  have K3 : Keep h0 h3 [a2] := (Keep.refl h0 [a2]).wr W3 (Or.inl (List.mem_of_getElem? (i := 0) rfl))
  have V3 : Arv Z h3 a2 kb .byte (2 : Int32) [(.int (nar .byte (c0).toInt8.toInt32)), (.int (0 : Int32))] (.int (0 : Int32)) := Arv.set Ar2 qk2 Sz2 Ng2 Hs2 Gs2 (fits_nar_byte _) W3 0 rfl (Nat.le_of_ble_eq_true rfl)
  have f4 := (hA.other W3 hne)
  obtain ⟨cl5, Ar5, qk5, Sz5, Ng5, Hs5, Gs5⟩ := id f4
  have hin5 : ¬ ((1 : Int32) < 0 ∨ cl5.slots.size ≤ ((1 : Int32)).toNatClampNeg) := inb_of Sz5 ⟨by decide, by decide⟩
  have hat5 : cl5.slots[((1 : Int32)).toNatClampNeg]? = some (.int c1) := Hs5.at hin5 rfl
  have S6 : ∀ t, oS p e below T3 (mkF m 25 #[rv a0, iv 1, rv a2, iv 1, iv 2, iv 1, iv c1] [(.int 1)]) t → oS p e below s₁ (mkF m 0 #[rv a0, iv 0, rv a2, iv 0, iv 2, .unset, .unset] []) t := fun t k => id (by
    show oS p e below s₁ (mkF m 0 #[rv a0, iv 0, rv a2, iv 0, iv 2, .unset, .unset] []) _
    refine XT.iconstV X0.here hx rfl (0 : Int32) (hb hby d8_0) (by decide) ?_
    refine XS.istore X0.here hx rfl (hb hby d8_1) rfl (l' := #[rv a0, iv 0, rv a2, iv 0, iv 2, iv 0, .unset]) rfl ?_
    refine XS.iload X0.here hx rfl (hb hby d8_3) rfl ?_
    refine XS.iload X0.here hx rfl (hb hby d8_5) rfl ?_
    refine XS.icmpNo X0.here hx rfl (hb hby d8_7) rfl (XT.ii_ge_f (by decide)) ?_
    refine XS.aloadN X0.here hx rfl (hb hby d8_10) rfl rfl ?_
    refine XS.iloadN X0.here hx rfl (hb hby d8_11) rfl ?_
    refine X0.caload hx (j := (0 : Int32)) (v := (.int c0)) (by rw [e0]; exact Ar1.1) (State.isArrayOf_alike hZ.alike Ar1.2.1) Ar1.2.2 hin1 hat1 (g := (mkF m 12 #[rv a0, iv 0, rv a2, iv 0, iv 2, iv 0, .unset] [(.int 0), (.ref a0)])) rfl rfl (hb hby d8_12) _ ?_
    refine XS.istore X0.here hx rfl (hb hby d8_13) rfl (l' := #[rv a0, iv 0, rv a2, iv 0, iv 2, iv 0, iv c0]) rfl ?_
    refine XS.iload X0.here hx rfl (hb hby d8_15) rfl ?_
    refine XT.sipushV X0.here hx rfl (255 : Int32) (hb hby d8_17) (by decide) ?_
    refine XS.icmpYes X0.here hx rfl (pc0 := 20) (pc' := 26) rfl (hb hby d8_20) rfl (XT.ii_le_t hc0) (by decide) (by decide) ?_
    refine XS.aloadN X0.here hx rfl (hb hby d8_26) rfl rfl ?_
    refine XS.iloadN X0.here hx rfl (hb hby d8_27) rfl ?_
    refine XS.iload X0.here hx rfl (hb hby d8_28) rfl ?_
    refine XT.i2b X0.here hx rfl (hb hby d8_30) rfl ?_
    refine st3 _ ?_
    refine XT.iincV X3.here hx rfl (1 : Int32) (hb hby d8_32) (by decide) rfl (l' := #[rv a0, iv 1, rv a2, iv 0, iv 2, iv 0, iv c0]) rfl ?_
    refine XT.iincV X3.here hx rfl (1 : Int32) (hb hby d8_35) (by decide) rfl (l' := #[rv a0, iv 1, rv a2, iv 1, iv 2, iv 0, iv c0]) rfl ?_
    refine XT.iincV X3.here hx rfl (1 : Int32) (hb hby d8_38) (by decide) rfl (l' := #[rv a0, iv 1, rv a2, iv 1, iv 2, iv 1, iv c0]) rfl ?_
    show oS p e below T3 (mkF m 41 #[rv a0, iv 1, rv a2, iv 1, iv 2, iv 1, iv c0] []) _
    refine XS.goto X3.here hx rfl (pc0 := 41) (pc' := 3) rfl (hb hby d8_41) (by decide) (by decide) ?_
    refine XS.iload X3.here hx rfl (hb hby d8_3) rfl ?_
    refine XS.iload X3.here hx rfl (hb hby d8_5) rfl ?_
    refine XS.icmpNo X3.here hx rfl (hb hby d8_7) rfl (XT.ii_ge_f (by decide)) ?_
    refine XS.aloadN X3.here hx rfl (hb hby d8_10) rfl rfl ?_
    refine XS.iloadN X3.here hx rfl (hb hby d8_11) rfl ?_
    refine X3.caload hx (j := (1 : Int32)) (v := (.int c1)) (by rw [e3]; exact Ar5.1) (State.isArrayOf_alike hZ.alike Ar5.2.1) Ar5.2.2 hin5 hat5 (g := (mkF m 12 #[rv a0, iv 1, rv a2, iv 1, iv 2, iv 1, iv c0] [(.int 1), (.ref a0)])) rfl rfl (hb hby d8_12) _ ?_
    refine XS.istore X3.here hx rfl (hb hby d8_13) rfl (l' := #[rv a0, iv 1, rv a2, iv 1, iv 2, iv 1, iv c1]) rfl ?_
    refine XS.iload X3.here hx rfl (hb hby d8_15) rfl ?_
    refine XT.sipushV X3.here hx rfl (255 : Int32) (hb hby d8_17) (by decide) ?_
    refine XS.icmpNo X3.here hx rfl (hb hby d8_20) rfl (XT.ii_le_f hbg) ?_
    refine XS.iload X3.here hx rfl (hb hby d8_23) rfl ?_
    exact k)
  obtain ⟨fs, hr, hrun, hended, hW, hsame⟩ := X3.leave (v := some (.int 1)) (fun h => by rw [Bd.returns] at h; cases h)
  refine ⟨_, _, pre0 _ (S6 _ ?_), hrun, hended, _, _, rfl, ?_, ⟨_, rfl⟩, hW, hsame.mono (by decide) (by decide)⟩
  · exact retI X3 hx Bd.returns (hb hby d8_25) hr
  · show QrmCp5_2_1 Z a0 a2 ka kb c0 c1 h0 n0 _ T3.heap _
    rw [e3]
    exact ⟨congrArg (fun z => some (Value.int z)) (by decide), N3, K3, V3⟩
def QrmCp3_2_1 (Z : State) (a0 : Addr) (ka : ClassId) (c0 : Int32) (c1 : Int32) (h0 : Heap) (n0 : Nat) (v : Option Value) (h : Heap) (L : List Loc) : Prop := ∃ (b : Addr) (k : ClassId), v = some (.ref b) ∧ Fr n0 L ∧ h0.size ≤ b ∧ Keep h0 h [] ∧ Arv Z h b k .byte (4 : Int32) [(.int (own_lo c0)), (.int (own_hi c0)), (.int (own_lo c1)), (.int (own_hi c1))] (.int (0 : Int32))
set_option maxRecDepth 65536 in
set_option maxHeartbeats 40000000 in
theorem rmCp3_2_1 (l : Launch) (Z : State) (av0 : Array Value) (hw : ∀ d ∈ tables_1, d.before av0 Z = true) (ws : List Jvm.Cond) (a0 : Addr) (ka : ClassId) (c0 : Int32) (c1 : Int32) (h0 : Heap) (n0 : Nat) (Z0 : n0 ≤ h0.size) (hA : Arv Z h0 a0 ka .char (2 : Int32) [(.int c0), (.int c1)] (.int (0 : Int32))) (hc0 : ¬ (255 : Int32) < c0) (hbg : (255 : Int32) < c1) (hg : 0 ≤ c1.toInt ∧ c1.toInt < 65536) (sA : Sta Z h0 "java/lang/StringUTF16" "$assertionsDisabled" "Z" (.int (1 : Int32))) (sH : Sta Z h0 "java/lang/StringUTF16" "HI_BYTE_SHIFT" "I" (.int (0 : Int32))) (sL : Sta Z h0 "java/lang/StringUTF16" "LO_BYTE_SHIFT" "I" (.int (8 : Int32))) :
    own_Met l mN21 jdk_52_method_16_code 6 (some (.array .byte)) ws ({ frames := 3, cells := 2, slots := 6, locals := 40 } : Room) #[(.ref a0), (.int 0), (.int 2)] Z h0 (QrmCp3_2_1 Z a0 ka c0 c1 h0 n0) := by
  refine MetFree.of_bodySF (plainFor_of_name pn_StringUTF16) hisR ?_
  intro p e s m args below meth c s₁ Bd hml0 hP hK
  obtain ⟨rfl, hZ, hh⟩ := hP
  have hml : c.maxLocals = 6 := hml0
  obtain ⟨hx, hby, hown, hnm, X0, e0⟩ := own_start Bd hml0 hh
  have N0 := Fr.nil n0
  have pre0 : ∀ t, oS p e below s₁ (mkF m 0 #[rv a0, iv 0, iv 2, .unset, .unset, .unset] []) t → Steps p.tables e below (s₁.setTop (entryFrame m #[(.ref a0), (.int 0), (.int 2)] 6)) t := fun t k => castTop (by first | (simp [entryFrame, mkF, argsToLocals, Value.category]; done) | rfl) k
  obtain ⟨T1, h1, k1, X1, e1, E1, A1, st1⟩ := newP X0 hx hZ (hw _ (own_w 16 rfl)) e0 (g := (mkF m 1 #[rv a0, iv 0, iv 2, .unset, .unset, .unset] [(.int 2)])) rfl (hb hby d7_1) rfl (by decide) (cap := 2) (by decide) (by decide) (by decide) (by decide)
  obtain ⟨b1, g1⟩ : ∃ z, z = h0.size := ⟨_, rfl⟩
  rw [← g1] at A1 st1
  have ne_a0_b1 : a0 ≠ b1 := Nat.ne_of_lt (Nat.lt_of_lt_of_le hA.lt (Nat.le_of_eq g1.symm))
  have ge_b1 : n0 ≤ b1 := Nat.le_trans Z0 (Nat.le_of_eq g1.symm)
  have sz_b1 : h0.size ≤ b1 := Nat.le_of_eq g1.symm
  have Z1 : n0 ≤ h1.size := Nat.le_trans Z0 E1.1
  have K1 : Keep h0 h1 [] := (Keep.refl h0 []).ext E1
  have V1 : Arv Z h1 b1 k1 .byte (2 : Int32) [(.int (0 : Int32)), (.int (0 : Int32))] (.int (0 : Int32)) := (Arv.new A1 (by decide)).pad (pad_rep [] (.int (0 : Int32)) 2)
  have f2 := (hA.ext E1)
  obtain ⟨_, T3, Lc3, X3, hQ3, st3⟩ := own_callS (W := 0) (y := mN16) X1 hx hZ hown (hw _ (own_w 42 rfl)) (hw _ (own_w 43 rfl)) (hw _ (own_w 40 rfl)) (hw _ (own_w 44 rfl)) (by decide) (rmCp5_2_1 l Z av0 hw [] a0 b1 ka k1 c0 c1 h1 n0 Z1 f2 V1 ne_a0_b1 ge_b1 hc0 hbg) (by decide) (by decide) (g := (mkF m 9 #[rv a0, iv 0, iv 2, rv b1, .unset, .unset] [(.int 2), (.int 0), (.ref b1), (.int 0), (.ref a0)])) rfl (by rw [hml]; rfl) (argsL := [(.ref a0), (.int 0), (.ref b1), (.int 0), (.int 2)]) (rest := []) (lenOf pd__CI_BII_I rfl) rfl (hb hby d7_9) rfl e1 (by decide : 1 + 0 ≤ _) (by decide : 2 + 0 ≤ _)
  obtain ⟨rfl, N3q, K3, V3⟩ := hQ3
  have N3 := Fr.app N0 N3q
  have e3 : T3.heap = T3.heap := rfl
  have Zk3 : n0 ≤ T3.heap.size := Nat.le_trans Z1 K3.1
  have Kk3 : Keep h0 T3.heap [] := K1.trans K3 (allS (Or.inr sz_b1) all0)
  have f4 := (f2.keep K3 (ninS ne_a0_b1 nin0))
  have f5 := (own_stak (sA.ext E1) K3 (allS (own_arns V1) all0))
  have f6 := (own_stak (sH.ext E1) K3 (allS (own_arns V1) all0))
  have f7 := (own_stak (sL.ext E1) K3 (allS (own_arns V1) all0))
  obtain ⟨_, T8, Lc8, X8, hQ8, st8⟩ := own_callS (W := 0) (y := mN20) X3 hx hZ hown (hw _ (own_w 78 rfl)) (hw _ (own_w 79 rfl)) (hw _ (own_w 40 rfl)) (hw _ (own_w 80 rfl)) (by decide) (rmTb_2 l Z av0 hw [] a0 ka c0 c1 T3.heap n0 Zk3 f4 f5 f6 f7) (by decide) (by decide) (g := (mkF m 23 #[rv a0, iv 0, iv 2, rv b1, iv 1, .unset] [(.int 2), (.int 0), (.ref a0)])) rfl (by rw [hml]; rfl) (argsL := [(.ref a0), (.int 0), (.int 2)]) (rest := []) (lenOf pd__CII_B rfl) rfl (hb hby d7_23) rfl e3 (by decide : 1 + 1 ≤ _) (by decide : 2 + 4 ≤ _)
  obtain ⟨b8, kb8, rfl, N8q, gb8, K8, V8⟩ := hQ8
  have N8 := Fr.app N3 N8q
  have e8 : T8.heap = T8.heap := rfl
  have ne_a0_b8 : a0 ≠ b8 := Nat.ne_of_lt (Nat.lt_of_lt_of_le f4.lt gb8)
  have ne_b1_b8 : b1 ≠ b8 := Nat.ne_of_lt (Nat.lt_of_lt_of_le V3.lt gb8)
  have ge_b8 : n0 ≤ b8 := Nat.le_trans Zk3 gb8
  have sz_b8 : h0.size ≤ b8 := Nat.le_trans Kk3.1 gb8
  have Zk8 : n0 ≤ T8.heap.size := Nat.le_trans Zk3 K8.1
  have Kk8 : Keep h0 T8.heap [] := Kk3.trans K8 all0
  have f9 := (own_stak f5 K8 all0)
  have f10 := (own_stak f6 K8 all0)
  have f11 := (own_stak f7 K8 all0)
  obtain ⟨_, T12, Lc12, X12, hQ12, st12⟩ := own_callS (W := 0) (y := mN12) X8 hx hZ hown (hw _ (own_w 94 rfl)) (hw _ (own_w 95 rfl)) (hw _ (own_w 40 rfl)) (hw _ (own_w 96 rfl)) (by decide) (rmGc l Z av0 hw [] b8 kb8 (4 : Int32) [(.int (own_lo c0)), (.int (own_hi c0)), (.int (own_lo c1)), (.int (own_hi c1))] (1 : Int32) (own_lo c1) (own_hi c1) T8.heap n0 Zk8 V8 f9 f10 f11 (by decide) (by decide) rfl rfl) (by decide) (by decide) (g := (mkF m 32 #[rv a0, iv 0, iv 2, rv b1, iv 1, rv b8] [(.int 1), (.ref b8)])) rfl (by rw [hml]; rfl) (argsL := [(.ref b8), (.int 1)]) (rest := []) (lenOf pd__BI_C rfl) rfl (hb hby d7_32) rfl e8 (by decide : 2 + 0 ≤ _) (by decide : 6 + 0 ≤ _)
  obtain ⟨rfl, N12q, hh12⟩ := hQ12
  have N12 := Fr.app N8 N12q
  have e12 : T12.heap = T8.heap := hh12
  have S13 : ∀ t, oS p e below T12 (mkF m 56 #[rv a0, iv 0, iv 2, rv b1, iv 1, rv b8] [(.ref b8)]) t → oS p e below s₁ (mkF m 0 #[rv a0, iv 0, iv 2, .unset, .unset, .unset] []) t := fun t k => id (by
    show oS p e below s₁ (mkF m 0 #[rv a0, iv 0, iv 2, .unset, .unset, .unset] []) _
    refine XS.iloadN X0.here hx rfl (hb hby d7_0) rfl ?_
    refine st1 _ ?_
    refine XS.astoreN X1.here hx rfl (hb hby d7_3) rfl rfl (l' := #[rv a0, iv 0, iv 2, rv b1, .unset, .unset]) rfl ?_
    refine XS.aloadN X1.here hx rfl (hb hby d7_4) rfl rfl ?_
    refine XS.iloadN X1.here hx rfl (hb hby d7_5) rfl ?_
    refine XS.aloadN X1.here hx rfl (hb hby d7_6) rfl rfl ?_
    refine XT.iconstV X1.here hx rfl (0 : Int32) (hb hby d7_7) (by decide) ?_
    refine XS.iloadN X1.here hx rfl (hb hby d7_8) rfl ?_
    refine st3 _ ?_
    refine XS.istore X3.here hx rfl (hb hby d7_12) rfl (l' := #[rv a0, iv 0, iv 2, rv b1, iv 1, .unset]) rfl ?_
    refine XS.iload X3.here hx rfl (hb hby d7_14) rfl ?_
    refine XS.iloadN X3.here hx rfl (hb hby d7_16) rfl ?_
    refine XS.icmpNo X3.here hx rfl (hb hby d7_17) rfl (XT.ii_eq_f (by decide)) ?_
    refine XS.aloadN X3.here hx rfl (hb hby d7_20) rfl rfl ?_
    refine XS.iloadN X3.here hx rfl (hb hby d7_21) rfl ?_
    refine XS.iloadN X3.here hx rfl (hb hby d7_22) rfl ?_
    refine st8 _ ?_
    refine XS.astore X8.here hx rfl (hb hby d7_26) rfl rfl (l' := #[rv a0, iv 0, iv 2, rv b1, iv 1, rv b8]) rfl ?_
    refine XS.aload X8.here hx rfl (hb hby d7_28) rfl rfl ?_
    refine XS.iload X8.here hx rfl (hb hby d7_30) rfl ?_
    show oS p e below T8 (mkF m 32 #[rv a0, iv 0, iv 2, rv b1, iv 1, rv b8] [(.int 1), (.ref b8)]) _
    refine st12 _ ?_
    refine XT.sipushV X12.here hx rfl (255 : Int32) (hb hby d7_35) (by decide) ?_
    refine XS.icmpYes X12.here hx rfl (pc0 := 38) (pc' := 54) rfl (hb hby d7_38) rfl (XT.ii_gt_t (by rw [own_gcv c1 hg.1 hg.2]; exact hbg)) (by decide) (by decide) ?_
    refine XS.aload X12.here hx rfl (hb hby d7_54) rfl rfl ?_
    exact k)
  obtain ⟨fs, hr, hrun, hended, hW, hsame⟩ := X12.leave (v := some (.ref b8)) (fun h => by rw [Bd.returns] at h; cases h)
  refine ⟨_, _, pre0 _ (S13 _ ?_), hrun, hended, _, _, rfl, ?_, ⟨_, rfl⟩, hW, hsame.mono (by decide) (by decide)⟩
  · jvm_step X12.here [X12.here.top, hx, (hb hby d7_56), X12.method', Bd.returns, Value.isRef, FieldType.isReference]
    first | (intro acts; rw [hr _ acts rfl rfl rfl]) | rw [hr _ _ rfl rfl rfl]
    exact Steps.refl _
  · show QrmCp3_2_1 Z a0 ka c0 c1 h0 n0 _ T12.heap _
    rw [e12]
    exact ⟨_, _, rfl, N12, sz_b8, Kk8, V8⟩
def QrmCp5_2_2 (Z : State) (a0 : Addr) (a2 : Addr) (ka : ClassId) (kb : ClassId) (c0 : Int32) (c1 : Int32) (h0 : Heap) (n0 : Nat) (v : Option Value) (h : Heap) (L : List Loc) : Prop := v = some (.int (2 : Int32)) ∧ Fr n0 L ∧ Keep h0 h [a2] ∧ Arv Z h a2 kb .byte (2 : Int32) [(.int (own_b c0)), (.int (own_b c1))] (.int (0 : Int32))
set_option maxRecDepth 65536 in
set_option maxHeartbeats 40000000 in
theorem rmCp5_2_2 (l : Launch) (Z : State) (av0 : Array Value) (hw : ∀ d ∈ tables_1, d.before av0 Z = true) (ws : List Jvm.Cond) (a0 : Addr) (a2 : Addr) (ka : ClassId) (kb : ClassId) (c0 : Int32) (c1 : Int32) (h0 : Heap) (n0 : Nat) (Z0 : n0 ≤ h0.size) (hA : Arv Z h0 a0 ka .char (2 : Int32) [(.int c0), (.int c1)] (.int (0 : Int32))) (hB : Arv Z h0 a2 kb .byte (2 : Int32) [(.int (0 : Int32)), (.int (0 : Int32))] (.int (0 : Int32))) (hne : a0 ≠ a2) (hge : n0 ≤ a2) (hc0 : ¬ (255 : Int32) < c0) (hc1 : ¬ (255 : Int32) < c1) :
    own_Met l mN16 jdk_52_method_21_code 7 (some .int) ws ({ frames := 0, cells := 0, slots := 0, locals := 0 } : Room) #[(.ref a0), (.int 0), (.ref a2), (.int 0), (.int 2)] Z h0 (QrmCp5_2_2 Z a0 a2 ka kb c0 c1 h0 n0) := by
  refine MetFree.of_bodySF (plainFor_of_name pn_StringUTF16) hisR ?_
  intro p e s m args below meth c s₁ Bd hml0 hP hK
  obtain ⟨rfl, hZ, hh⟩ := hP
  have hml : c.maxLocals = 7 := hml0
  obtain ⟨hx, hby, hown, hnm, X0, e0⟩ := own_start Bd hml0 hh
  have N0 := Fr.nil n0
  have pre0 : ∀ t, oS p e below s₁ (mkF m 0 #[rv a0, iv 0, rv a2, iv 0, iv 2, .unset, .unset] []) t → Steps p.tables e below (s₁.setTop (entryFrame m #[(.ref a0), (.int 0), (.ref a2), (.int 0), (.int 2)] 7)) t := fun t k => castTop (by first | (simp [entryFrame, mkF, argsToLocals, Value.category]; done) | rfl) k
  obtain ⟨cl1, Ar1, qk1, Sz1, Ng1, Hs1, Gs1⟩ := id hA
  have hin1 : ¬ ((0 : Int32) < 0 ∨ cl1.slots.size ≤ ((0 : Int32)).toNatClampNeg) := inb_of Sz1 ⟨by decide, by decide⟩
  have hat1 : cl1.slots[((0 : Int32)).toNatClampNeg]? = some (.int c0) := Hs1.at hin1 rfl
  obtain ⟨cl2, Ar2, qk2, Sz2, Ng2, Hs2, Gs2⟩ := id hB
  have hin2 : ¬ ((0 : Int32) < 0 ∨ cl2.slots.size ≤ ((0 : Int32)).toNatClampNeg) := inb_of Sz2 ⟨by decide, by decide⟩
  obtain ⟨T3, h3, X3, e3, W3, st3⟩ := stB X0 hx hZ e0 Ar2 (j := (0 : Int32)) hin2 (g := (mkF m 31 #[rv a0, iv 0, rv a2, iv 0, iv 2, iv 0, iv c0] [(.int (c0).toInt8.toInt32), (.int 0), (.ref a2)])) rfl rfl (hb hby d8_31)
  have N3 := Fr.snoc X3 N0 hge
  have Z3 : n0 ≤ h3.size := Nat.le_trans Z0 (Nat.le_of_eq W3.size.symm)
  have K3 : Keep h0 h3 [a2] := (Keep.refl h0 [a2]).wr W3 (Or.inl (List.mem_of_getElem? (i := 0) rfl))
  have V3 : Arv Z h3 a2 kb .byte (2 : Int32) [(.int (nar .byte (c0).toInt8.toInt32)), (.int (0 : Int32))] (.int (0 : Int32)) := Arv.set Ar2 qk2 Sz2 Ng2 Hs2 Gs2 (fits_nar_byte _) W3 0 rfl (Nat.le_of_ble_eq_true rfl)
  have f4 := (hA.other W3 hne)
  obtain ⟨cl5, Ar5, qk5, Sz5, Ng5, Hs5, Gs5⟩ := id f4
  have hin5 : ¬ ((1 : Int32) < 0 ∨ cl5.slots.size ≤ ((1 : Int32)).toNatClampNeg) := inb_of Sz5 ⟨by decide, by decide⟩
  have hat5 : cl5.slots[((1 : Int32)).toNatClampNeg]? = some (.int c1) := Hs5.at hin5 rfl
  obtain ⟨cl6, Ar6, qk6, Sz6, Ng6, Hs6, Gs6⟩ := id V3
  have hin6 : ¬ ((1 : Int32) < 0 ∨ cl6.slots.size ≤ ((1 : Int32)).toNatClampNeg) := inb_of Sz6 ⟨by decide, by decide⟩
  obtain ⟨T7, h7, X7, e7, W7, st7⟩ := stB X3 hx hZ e3 Ar6 (j := (1 : Int32)) hin6 (g := (mkF m 31 #[rv a0, iv 1, rv a2, iv 1, iv 2, iv 1, iv c1] [(.int (c1).toInt8.toInt32), (.int 1), (.ref a2)])) rfl rfl (hb hby d8_31)
  have N7 := Fr.snoc X7 N3 hge
  have Z7 : n0 ≤ h7.size := Nat.le_trans Z3 (Nat.le_of_eq W7.size.symm)
  have K7 : Keep h0 h7 [a2] := K3.wr W7 (Or.inl (List.mem_of_getElem? (i := 0) rfl))
  have V7 : Arv Z h7 a2 kb .byte (2 : Int32) [(.int (nar .byte (c0).toInt8.toInt32)), (.int (nar .byte (c1).toInt8.toInt32))] (.int (0 : Int32)) := Arv.set Ar6 qk6 Sz6 Ng6 Hs6 Gs6 (fits_nar_byte _) W7 1 rfl (Nat.le_of_ble_eq_true rfl)
  have S8 : ∀ t, oS p e below T7 (mkF m 46 #[rv a0, iv 2, rv a2, iv 2, iv 2, iv 2, iv c1] [(.int 2)]) t → oS p e below s₁ (mkF m 0 #[rv a0, iv 0, rv a2, iv 0, iv 2, .unset, .unset] []) t := fun t k => id (by
    show oS p e below s₁ (mkF m 0 #[rv a0, iv 0, rv a2, iv 0, iv 2, .unset, .unset] []) _
    refine XT.iconstV X0.here hx rfl (0 : Int32) (hb hby d8_0) (by decide) ?_
    refine XS.istore X0.here hx rfl (hb hby d8_1) rfl (l' := #[rv a0, iv 0, rv a2, iv 0, iv 2, iv 0, .unset]) rfl ?_
    refine XS.iload X0.here hx rfl (hb hby d8_3) rfl ?_
    refine XS.iload X0.here hx rfl (hb hby d8_5) rfl ?_
    refine XS.icmpNo X0.here hx rfl (hb hby d8_7) rfl (XT.ii_ge_f (by decide)) ?_
    refine XS.aloadN X0.here hx rfl (hb hby d8_10) rfl rfl ?_
    refine XS.iloadN X0.here hx rfl (hb hby d8_11) rfl ?_
    refine X0.caload hx (j := (0 : Int32)) (v := (.int c0)) (by rw [e0]; exact Ar1.1) (State.isArrayOf_alike hZ.alike Ar1.2.1) Ar1.2.2 hin1 hat1 (g := (mkF m 12 #[rv a0, iv 0, rv a2, iv 0, iv 2, iv 0, .unset] [(.int 0), (.ref a0)])) rfl rfl (hb hby d8_12) _ ?_
    refine XS.istore X0.here hx rfl (hb hby d8_13) rfl (l' := #[rv a0, iv 0, rv a2, iv 0, iv 2, iv 0, iv c0]) rfl ?_
    refine XS.iload X0.here hx rfl (hb hby d8_15) rfl ?_
    refine XT.sipushV X0.here hx rfl (255 : Int32) (hb hby d8_17) (by decide) ?_
    refine XS.icmpYes X0.here hx rfl (pc0 := 20) (pc' := 26) rfl (hb hby d8_20) rfl (XT.ii_le_t hc0) (by decide) (by decide) ?_
    refine XS.aloadN X0.here hx rfl (hb hby d8_26) rfl rfl ?_
    refine XS.iloadN X0.here hx rfl (hb hby d8_27) rfl ?_
    refine XS.iload X0.here hx rfl (hb hby d8_28) rfl ?_
    refine XT.i2b X0.here hx rfl (hb hby d8_30) rfl ?_
    refine st3 _ ?_
    refine XT.iincV X3.here hx rfl (1 : Int32) (hb hby d8_32) (by decide) rfl (l' := #[rv a0, iv 1, rv a2, iv 0, iv 2, iv 0, iv c0]) rfl ?_
    refine XT.iincV X3.here hx rfl (1 : Int32) (hb hby d8_35) (by decide) rfl (l' := #[rv a0, iv 1, rv a2, iv 1, iv 2, iv 0, iv c0]) rfl ?_
    refine XT.iincV X3.here hx rfl (1 : Int32) (hb hby d8_38) (by decide) rfl (l' := #[rv a0, iv 1, rv a2, iv 1, iv 2, iv 1, iv c0]) rfl ?_
    show oS p e below T3 (mkF m 41 #[rv a0, iv 1, rv a2, iv 1, iv 2, iv 1, iv c0] []) _
    refine XS.goto X3.here hx rfl (pc0 := 41) (pc' := 3) rfl (hb hby d8_41) (by decide) (by decide) ?_
    refine XS.iload X3.here hx rfl (hb hby d8_3) rfl ?_
    refine XS.iload X3.here hx rfl (hb hby d8_5) rfl ?_
    refine XS.icmpNo X3.here hx rfl (hb hby d8_7) rfl (XT.ii_ge_f (by decide)) ?_
    refine XS.aloadN X3.here hx rfl (hb hby d8_10) rfl rfl ?_
    refine XS.iloadN X3.here hx rfl (hb hby d8_11) rfl ?_
    refine X3.caload hx (j := (1 : Int32)) (v := (.int c1)) (by rw [e3]; exact Ar5.1) (State.isArrayOf_alike hZ.alike Ar5.2.1) Ar5.2.2 hin5 hat5 (g := (mkF m 12 #[rv a0, iv 1, rv a2, iv 1, iv 2, iv 1, iv c0] [(.int 1), (.ref a0)])) rfl rfl (hb hby d8_12) _ ?_
    refine XS.istore X3.here hx rfl (hb hby d8_13) rfl (l' := #[rv a0, iv 1, rv a2, iv 1, iv 2, iv 1, iv c1]) rfl ?_
    refine XS.iload X3.here hx rfl (hb hby d8_15) rfl ?_
    refine XT.sipushV X3.here hx rfl (255 : Int32) (hb hby d8_17) (by decide) ?_
    refine XS.icmpYes X3.here hx rfl (pc0 := 20) (pc' := 26) rfl (hb hby d8_20) rfl (XT.ii_le_t hc1) (by decide) (by decide) ?_
    refine XS.aloadN X3.here hx rfl (hb hby d8_26) rfl rfl ?_
    refine XS.iloadN X3.here hx rfl (hb hby d8_27) rfl ?_
    refine XS.iload X3.here hx rfl (hb hby d8_28) rfl ?_
    refine XT.i2b X3.here hx rfl (hb hby d8_30) rfl ?_
    refine st7 _ ?_
    refine XT.iincV X7.here hx rfl (1 : Int32) (hb hby d8_32) (by decide) rfl (l' := #[rv a0, iv 2, rv a2, iv 1, iv 2, iv 1, iv c1]) rfl ?_
    refine XT.iincV X7.here hx rfl (1 : Int32) (hb hby d8_35) (by decide) rfl (l' := #[rv a0, iv 2, rv a2, iv 2, iv 2, iv 1, iv c1]) rfl ?_
    refine XT.iincV X7.here hx rfl (1 : Int32) (hb hby d8_38) (by decide) rfl (l' := #[rv a0, iv 2, rv a2, iv 2, iv 2, iv 2, iv c1]) rfl ?_
    refine XS.goto X7.here hx rfl (pc0 := 41) (pc' := 3) rfl (hb hby d8_41) (by decide) (by decide) ?_
    show oS p e below T7 (mkF m 3 #[rv a0, iv 2, rv a2, iv 2, iv 2, iv 2, iv c1] []) _
    refine XS.iload X7.here hx rfl (hb hby d8_3) rfl ?_
    refine XS.iload X7.here hx rfl (hb hby d8_5) rfl ?_
    refine XS.icmpYes X7.here hx rfl (pc0 := 7) (pc' := 44) rfl (hb hby d8_7) rfl (XT.ii_ge_t (by decide)) (by decide) (by decide) ?_
    refine XS.iload X7.here hx rfl (hb hby d8_44) rfl ?_
    exact k)
  obtain ⟨fs, hr, hrun, hended, hW, hsame⟩ := X7.leave (v := some (.int 2)) (fun h => by rw [Bd.returns] at h; cases h)
  refine ⟨_, _, pre0 _ (S8 _ ?_), hrun, hended, _, _, rfl, ?_, ⟨_, rfl⟩, hW, hsame.mono (by decide) (by decide)⟩
  · exact retI X7 hx Bd.returns (hb hby d8_46) hr
  · show QrmCp5_2_2 Z a0 a2 ka kb c0 c1 h0 n0 _ T7.heap _
    rw [e7]
    exact ⟨congrArg (fun z => some (Value.int z)) (by decide), N7, K7, V7⟩
def QrmCp3_2_2 (Z : State) (a0 : Addr) (ka : ClassId) (c0 : Int32) (c1 : Int32) (h0 : Heap) (n0 : Nat) (v : Option Value) (h : Heap) (L : List Loc) : Prop := ∃ (b : Addr) (k : ClassId), v = some (.ref b) ∧ Fr n0 L ∧ h0.size ≤ b ∧ Keep h0 h [] ∧ Arv Z h b k .byte (2 : Int32) [(.int (own_b c0)), (.int (own_b c1))] (.int (0 : Int32))
set_option maxRecDepth 65536 in
set_option maxHeartbeats 40000000 in
theorem rmCp3_2_2 (l : Launch) (Z : State) (av0 : Array Value) (hw : ∀ d ∈ tables_1, d.before av0 Z = true) (ws : List Jvm.Cond) (a0 : Addr) (ka : ClassId) (c0 : Int32) (c1 : Int32) (h0 : Heap) (n0 : Nat) (Z0 : n0 ≤ h0.size) (hA : Arv Z h0 a0 ka .char (2 : Int32) [(.int c0), (.int c1)] (.int (0 : Int32))) (hc0 : ¬ (255 : Int32) < c0) (hc1 : ¬ (255 : Int32) < c1) :
    own_Met l mN21 jdk_52_method_16_code 6 (some (.array .byte)) ws ({ frames := 3, cells := 2, slots := 6, locals := 40 } : Room) #[(.ref a0), (.int 0), (.int 2)] Z h0 (QrmCp3_2_2 Z a0 ka c0 c1 h0 n0) := by
  refine MetFree.of_bodySF (plainFor_of_name pn_StringUTF16) hisR ?_
  intro p e s m args below meth c s₁ Bd hml0 hP hK
  obtain ⟨rfl, hZ, hh⟩ := hP
  have hml : c.maxLocals = 6 := hml0
  obtain ⟨hx, hby, hown, hnm, X0, e0⟩ := own_start Bd hml0 hh
  have N0 := Fr.nil n0
  have pre0 : ∀ t, oS p e below s₁ (mkF m 0 #[rv a0, iv 0, iv 2, .unset, .unset, .unset] []) t → Steps p.tables e below (s₁.setTop (entryFrame m #[(.ref a0), (.int 0), (.int 2)] 6)) t := fun t k => castTop (by first | (simp [entryFrame, mkF, argsToLocals, Value.category]; done) | rfl) k
  obtain ⟨T1, h1, k1, X1, e1, E1, A1, st1⟩ := newP X0 hx hZ (hw _ (own_w 16 rfl)) e0 (g := (mkF m 1 #[rv a0, iv 0, iv 2, .unset, .unset, .unset] [(.int 2)])) rfl (hb hby d7_1) rfl (by decide) (cap := 2) (by decide) (by decide) (by decide) (by decide)
  obtain ⟨b1, g1⟩ : ∃ z, z = h0.size := ⟨_, rfl⟩
  rw [← g1] at A1 st1
  have ne_a0_b1 : a0 ≠ b1 := Nat.ne_of_lt (Nat.lt_of_lt_of_le hA.lt (Nat.le_of_eq g1.symm))
  have ge_b1 : n0 ≤ b1 := Nat.le_trans Z0 (Nat.le_of_eq g1.symm)
  have sz_b1 : h0.size ≤ b1 := Nat.le_of_eq g1.symm
  have Z1 : n0 ≤ h1.size := Nat.le_trans Z0 E1.1
  have K1 : Keep h0 h1 [] := (Keep.refl h0 []).ext E1
  have V1 : Arv Z h1 b1 k1 .byte (2 : Int32) [(.int (0 : Int32)), (.int (0 : Int32))] (.int (0 : Int32)) := (Arv.new A1 (by decide)).pad (pad_rep [] (.int (0 : Int32)) 2)
  have f2 := (hA.ext E1)
  obtain ⟨_, T3, Lc3, X3, hQ3, st3⟩ := own_callS (W := 0) (y := mN16) X1 hx hZ hown (hw _ (own_w 42 rfl)) (hw _ (own_w 43 rfl)) (hw _ (own_w 40 rfl)) (hw _ (own_w 44 rfl)) (by decide) (rmCp5_2_2 l Z av0 hw [] a0 b1 ka k1 c0 c1 h1 n0 Z1 f2 V1 ne_a0_b1 ge_b1 hc0 hc1) (by decide) (by decide) (g := (mkF m 9 #[rv a0, iv 0, iv 2, rv b1, .unset, .unset] [(.int 2), (.int 0), (.ref b1), (.int 0), (.ref a0)])) rfl (by rw [hml]; rfl) (argsL := [(.ref a0), (.int 0), (.ref b1), (.int 0), (.int 2)]) (rest := []) (lenOf pd__CI_BII_I rfl) rfl (hb hby d7_9) rfl e1 (by decide : 1 + 0 ≤ _) (by decide : 2 + 0 ≤ _)
  obtain ⟨rfl, N3q, K3, V3⟩ := hQ3
  have N3 := Fr.app N0 N3q
  have e3 : T3.heap = T3.heap := rfl
  have Zk3 : n0 ≤ T3.heap.size := Nat.le_trans Z1 K3.1
  have Kk3 : Keep h0 T3.heap [] := K1.trans K3 (allS (Or.inr sz_b1) all0)
  have S4 : ∀ t, oS p e below T3 (mkF m 58 #[rv a0, iv 0, iv 2, rv b1, iv 2, .unset] [(.ref b1)]) t → oS p e below s₁ (mkF m 0 #[rv a0, iv 0, iv 2, .unset, .unset, .unset] []) t := fun t k => id (by
    show oS p e below s₁ (mkF m 0 #[rv a0, iv 0, iv 2, .unset, .unset, .unset] []) _
    refine XS.iloadN X0.here hx rfl (hb hby d7_0) rfl ?_
    refine st1 _ ?_
    refine XS.astoreN X1.here hx rfl (hb hby d7_3) rfl rfl (l' := #[rv a0, iv 0, iv 2, rv b1, .unset, .unset]) rfl ?_
    refine XS.aloadN X1.here hx rfl (hb hby d7_4) rfl rfl ?_
    refine XS.iloadN X1.here hx rfl (hb hby d7_5) rfl ?_
    refine XS.aloadN X1.here hx rfl (hb hby d7_6) rfl rfl ?_
    refine XT.iconstV X1.here hx rfl (0 : Int32) (hb hby d7_7) (by decide) ?_
    refine XS.iloadN X1.here hx rfl (hb hby d7_8) rfl ?_
    refine st3 _ ?_
    refine XS.istore X3.here hx rfl (hb hby d7_12) rfl (l' := #[rv a0, iv 0, iv 2, rv b1, iv 2, .unset]) rfl ?_
    refine XS.iload X3.here hx rfl (hb hby d7_14) rfl ?_
    refine XS.iloadN X3.here hx rfl (hb hby d7_16) rfl ?_
    refine XS.icmpYes X3.here hx rfl (pc0 := 17) (pc' := 57) rfl (hb hby d7_17) rfl (XT.ii_eq_t (by decide)) (by decide) (by decide) ?_
    refine XS.aloadN X3.here hx rfl (hb hby d7_57) rfl rfl ?_
    exact k)
  obtain ⟨fs, hr, hrun, hended, hW, hsame⟩ := X3.leave (v := some (.ref b1)) (fun h => by rw [Bd.returns] at h; cases h)
  refine ⟨_, _, pre0 _ (S4 _ ?_), hrun, hended, _, _, rfl, ?_, ⟨_, rfl⟩, hW, hsame.mono (by decide) (by decide)⟩
  · jvm_step X3.here [X3.here.top, hx, (hb hby d7_58), X3.method', Bd.returns, Value.isRef, FieldType.isReference]
    first | (intro acts; rw [hr _ acts rfl rfl rfl]) | rw [hr _ _ rfl rfl rfl]
    exact Steps.refl _
  · show QrmCp3_2_2 Z a0 ka c0 c1 h0 n0 _ T3.heap _
    rw [e3]
    exact ⟨_, _, rfl, N3, sz_b1, Kk3, V3⟩
def QCp3_2 (Z : State) (c0 : Int32) (c1 : Int32) (h0 : Heap) (n0 : Nat) (v : Option Value) (h : Heap) (L : List Loc) : Prop := (∃ (b : Addr) (k : ClassId), v = some (.ref b) ∧ Fr n0 L ∧ h0.size ≤ b ∧ Keep h0 h [] ∧ Arv Z h b k .byte (2 : Int32) [(.int (own_b c0)), (.int (own_b c1))] (.int (0 : Int32)) ∧ ¬ (255 : Int32) < c0 ∧ ¬ (255 : Int32) < c1) ∨ (∃ (b : Addr) (k : ClassId), v = some (.ref b) ∧ Fr n0 L ∧ h0.size ≤ b ∧ Keep h0 h [] ∧ Arv Z h b k .byte (4 : Int32) [(.int (own_lo c0)), (.int (own_hi c0)), (.int (own_lo c1)), (.int (own_hi c1))] (.int (0 : Int32)))
theorem rmCp3J_2 (l : Launch) (Z : State) (av0 : Array Value) (hw : ∀ d ∈ tables_1, d.before av0 Z = true) (ws : List Jvm.Cond) (a0 : Addr) (ka : ClassId) (c0 : Int32) (c1 : Int32) (h0 : Heap) (n0 : Nat) (Z0 : n0 ≤ h0.size) (hA : Arv Z h0 a0 ka .char (2 : Int32) [(.int c0), (.int c1)] (.int (0 : Int32))) (hg0 : 0 ≤ c0.toInt ∧ c0.toInt < 65536) (hg1 : 0 ≤ c1.toInt ∧ c1.toInt < 65536) (sA : Sta Z h0 "java/lang/StringUTF16" "$assertionsDisabled" "Z" (.int (1 : Int32))) (sH : Sta Z h0 "java/lang/StringUTF16" "HI_BYTE_SHIFT" "I" (.int (0 : Int32))) (sL : Sta Z h0 "java/lang/StringUTF16" "LO_BYTE_SHIFT" "I" (.int (8 : Int32))) :
    own_Met l mN21 jdk_52_method_16_code 6 (some (.array .byte)) ws ({ frames := 3, cells := 2, slots := 6, locals := 40 } : Room) #[(.ref a0), (.int (0 : Int32)), (.int (2 : Int32))] Z h0 (QCp3_2 Z c0 c1 h0 n0) := by
  by_cases q0 : (255 : Int32) < c0
  · exact own_weak (rmCp3_2_0 l Z av0 hw ws a0 ka c0 c1 h0 n0 Z0 hA  q0 hg0 sA sH sL) (fun v t L q => Or.inr q)
  by_cases q1 : (255 : Int32) < c1
  · exact own_weak (rmCp3_2_1 l Z av0 hw ws a0 ka c0 c1 h0 n0 Z0 hA q0 q1 hg1 sA sH sL) (fun v t L q => Or.inr q)
  exact own_weak (rmCp3_2_2 l Z av0 hw ws a0 ka c0 c1 h0 n0 Z0 hA q0 q1) (fun v t L ⟨b, k, z1, z2, z3, z4, z5⟩ => Or.inl ⟨b, k, z1, z2, z3, z4, z5, q0, q1⟩)
def QrmCd_2_0 (Z : State) (a0 : Addr) (ka : ClassId) (vs : List Value) (h0 : Heap) (n0 : Nat) (v : Option Value) (h : Heap) (L : List Loc) : Prop := v = some (.int 0) ∧ Fr n0 L ∧ h = h0
set_option maxRecDepth 65536 in
set_option maxHeartbeats 40000000 in
theorem rmCd_2_0 (l : Launch) (Z : State) (av0 : Array Value) (hw : ∀ d ∈ tables_1, d.before av0 Z = true) (ws : List Jvm.Cond) (a0 : Addr) (ka : ClassId) (vs : List Value) (h0 : Heap) (n0 : Nat) (Z0 : n0 ≤ h0.size) (hA : Arv Z h0 a0 ka .byte (2 : Int32) vs (.int (0 : Int32))) :
    own_Met l mN22 jdk_52_method_15_code 2 (some .byte) ws ({ frames := 0, cells := 0, slots := 0, locals := 0 } : Room) #[(.ref a0), (.int 2)] Z h0 (QrmCd_2_0 Z a0 ka vs h0 n0) := by
  refine MetFree.of_bodySF (plainFor_of_name pn_StringUTF16) hisR ?_
  intro p e s m args below meth c s₁ Bd hml0 hP hK
  obtain ⟨rfl, hZ, hh⟩ := hP
  have hml : c.maxLocals = 2 := hml0
  obtain ⟨hx, hby, hown, hnm, X0, e0⟩ := own_start Bd hml0 hh
  have N0 := Fr.nil n0
  have pre0 : ∀ t, oS p e below s₁ (mkF m 0 #[rv a0, iv 2] []) t → Steps p.tables e below (s₁.setTop (entryFrame m #[(.ref a0), (.int 2)] 2)) t := fun t k => castTop (by first | (simp [entryFrame, mkF, argsToLocals, Value.category]; done) | rfl) k
  obtain ⟨cl1, Ar1, qk1, Sz1, Ng1, Hs1, Gs1⟩ := id hA
  have S2 : ∀ t, oS p e below s₁ (mkF m 8 #[rv a0, iv 2] [(.int 0)]) t → oS p e below s₁ (mkF m 0 #[rv a0, iv 2] []) t := fun t k => id (by
    show oS p e below s₁ (mkF m 0 #[rv a0, iv 2] []) _
    refine XS.iloadN X0.here hx rfl (hb hby d9_0) rfl ?_
    refine XS.aloadN X0.here hx rfl (hb hby d9_1) rfl rfl ?_
    refine X0.arraylength hx (by rw [e0]; exact Ar1.1) (State.isArrayOf_alike hZ.alike Ar1.2.1) (g := (mkF m 2 #[rv a0, iv 2] [(.ref a0), (.int 2)])) rfl rfl (hb hby d9_2) _ ?_
    rw [len_of Sz1 Ng1]
    refine XS.isub X0.here hx rfl (hb hby d9_3) rfl ?_
    refine XT.bipushV X0.here hx rfl (31 : Int32) (hb hby d9_4) (by decide) ?_
    refine XT.iushr X0.here hx rfl (hb hby d9_6) rfl ?_
    refine XT.i2b X0.here hx rfl (hb hby d9_7) rfl ?_
    exact k)
  obtain ⟨fs, hr, hrun, hended, hW, hsame⟩ := X0.leave (v := some (.int (nar .byte (0 : Int32)))) (fun h => by rw [Bd.returns] at h; cases h)
  refine ⟨_, _, pre0 _ (S2 _ ?_), hrun, hended, _, _, rfl, ?_, ⟨_, rfl⟩, hW, hsame.mono (by decide) (by decide)⟩
  · exact retN X0 hx (t := .byte) Bd.returns (by simp) (hb hby d9_8) hr
  · show QrmCd_2_0 Z a0 ka vs h0 n0 _ s₁.heap _
    rw [e0]
    exact ⟨congrArg (fun z => some (Value.int z)) (by decide), N0, rfl⟩
def QrmCd_2_1 (Z : State) (a0 : Addr) (ka : ClassId) (vs : List Value) (h0 : Heap) (n0 : Nat) (v : Option Value) (h : Heap) (L : List Loc) : Prop := v = some (.int 1) ∧ Fr n0 L ∧ h = h0
set_option maxRecDepth 65536 in
set_option maxHeartbeats 40000000 in
theorem rmCd_2_1 (l : Launch) (Z : State) (av0 : Array Value) (hw : ∀ d ∈ tables_1, d.before av0 Z = true) (ws : List Jvm.Cond) (a0 : Addr) (ka : ClassId) (vs : List Value) (h0 : Heap) (n0 : Nat) (Z0 : n0 ≤ h0.size) (hA : Arv Z h0 a0 ka .byte (4 : Int32) vs (.int (0 : Int32))) :
    own_Met l mN22 jdk_52_method_15_code 2 (some .byte) ws ({ frames := 0, cells := 0, slots := 0, locals := 0 } : Room) #[(.ref a0), (.int 2)] Z h0 (QrmCd_2_1 Z a0 ka vs h0 n0) := by
  refine MetFree.of_bodySF (plainFor_of_name pn_StringUTF16) hisR ?_
  intro p e s m args below meth c s₁ Bd hml0 hP hK
  obtain ⟨rfl, hZ, hh⟩ := hP
  have hml : c.maxLocals = 2 := hml0
  obtain ⟨hx, hby, hown, hnm, X0, e0⟩ := own_start Bd hml0 hh
  have N0 := Fr.nil n0
  have pre0 : ∀ t, oS p e below s₁ (mkF m 0 #[rv a0, iv 2] []) t → Steps p.tables e below (s₁.setTop (entryFrame m #[(.ref a0), (.int 2)] 2)) t := fun t k => castTop (by first | (simp [entryFrame, mkF, argsToLocals, Value.category]; done) | rfl) k
  obtain ⟨cl1, Ar1, qk1, Sz1, Ng1, Hs1, Gs1⟩ := id hA
  have S2 : ∀ t, oS p e below s₁ (mkF m 8 #[rv a0, iv 2] [(.int 1)]) t → oS p e below s₁ (mkF m 0 #[rv a0, iv 2] []) t := fun t k => id (by
    show oS p e below s₁ (mkF m 0 #[rv a0, iv 2] []) _
    refine XS.iloadN X0.here hx rfl (hb hby d9_0) rfl ?_
    refine XS.aloadN X0.here hx rfl (hb hby d9_1) rfl rfl ?_
    refine X0.arraylength hx (by rw [e0]; exact Ar1.1) (State.isArrayOf_alike hZ.alike Ar1.2.1) (g := (mkF m 2 #[rv a0, iv 2] [(.ref a0), (.int 2)])) rfl rfl (hb hby d9_2) _ ?_
    rw [len_of Sz1 Ng1]
    refine XS.isub X0.here hx rfl (hb hby d9_3) rfl ?_
    refine XT.bipushV X0.here hx rfl (31 : Int32) (hb hby d9_4) (by decide) ?_
    refine XT.iushr X0.here hx rfl (hb hby d9_6) rfl ?_
    refine XT.i2b X0.here hx rfl (hb hby d9_7) rfl ?_
    exact k)
  obtain ⟨fs, hr, hrun, hended, hW, hsame⟩ := X0.leave (v := some (.int (nar .byte (1 : Int32)))) (fun h => by rw [Bd.returns] at h; cases h)
  refine ⟨_, _, pre0 _ (S2 _ ?_), hrun, hended, _, _, rfl, ?_, ⟨_, rfl⟩, hW, hsame.mono (by decide) (by decide)⟩
  · exact retN X0 hx (t := .byte) Bd.returns (by simp) (hb hby d9_8) hr
  · show QrmCd_2_1 Z a0 ka vs h0 n0 _ s₁.heap _
    rw [e0]
    exact ⟨congrArg (fun z => some (Value.int z)) (by decide), N0, rfl⟩
def QrmSi4_2 (Z : State) (a0 : Addr) (a1 : Addr) (ka : ClassId) (wC : Int32) (c0 : Int32) (c1 : Int32) (h0 : Heap) (n0 : Nat) (v : Option Value) (h : Heap) (L : List Loc) : Prop := v = none ∧ Fr n0 L ∧ Keep h0 h [a0] ∧ own_St2 Z h a0 c0 c1
set_option maxRecDepth 65536 in
set_option maxHeartbeats 40000000 in
theorem rmSi4_2 (l : Launch) (Z : State) (av0 : Array Value) (hw : ∀ d ∈ tables_1, d.before av0 Z = true) (ws : List Jvm.Cond) (a0 : Addr) (a1 : Addr) (ka : ClassId) (wC : Int32) (c0 : Int32) (c1 : Int32) (h0 : Heap) (n0 : Nat) (Z0 : n0 ≤ h0.size) (hE : Exa Z h0 a0 "java/lang/String") (hV : Fld Z h0 a0 "java/lang/String" "value" "[B" .null) (hC : Fld Z h0 a0 "java/lang/String" "coder" "B" (.int (0 : Int32))) (hge : n0 ≤ a0) (hA : Arv Z h0 a1 ka .char (2 : Int32) [(.int c0), (.int c1)] (.int (0 : Int32))) (hS : Sta Z h0 "java/lang/String" "COMPACT_STRINGS" "Z" (.int wC)) (hw0 : ¬ wC = (0 : Int32)) (hg0 : 0 ≤ c0.toInt ∧ c0.toInt < 65536) (hg1 : 0 ≤ c1.toInt ∧ c1.toInt < 65536) (sA : Sta Z h0 "java/lang/StringUTF16" "$assertionsDisabled" "Z" (.int (1 : Int32))) (sH : Sta Z h0 "java/lang/StringUTF16" "HI_BYTE_SHIFT" "I" (.int (0 : Int32))) (sL : Sta Z h0 "java/lang/StringUTF16" "LO_BYTE_SHIFT" "I" (.int (8 : Int32))) :
    own_Met l mN2 jdk_42_method_149_code 6 none ws ({ frames := 4, cells := 2, slots := 6, locals := 57 } : Room) #[(.ref a0), (.ref a1), (.int 0), (.int 2), .null] Z h0 (QrmSi4_2 Z a0 a1 ka wC c0 c1 h0 n0) := by
  refine MetFree.of_bodySF (plainFor_of_name pn_String) hisR ?_
  intro p e s m args below meth c s₁ Bd hml0 hP hK
  obtain ⟨rfl, hZ, hh⟩ := hP
  have hml : c.maxLocals = 6 := hml0
  obtain ⟨hx, hby, hown, hnm, X0, e0⟩ := own_start Bd hml0 hh
  have N0 := Fr.nil n0
  have pre0 : ∀ t, oS p e below s₁ (mkF m 0 #[rv a0, rv a1, iv 0, iv 2, .val .null, .unset] []) t → Steps p.tables e below (s₁.setTop (entryFrame m #[(.ref a0), (.ref a1), (.int 0), (.int 2), .null] 6)) t := fun t k => castTop (by first | (simp [entryFrame, mkF, argsToLocals, Value.category]; done) | rfl) k
  obtain ⟨T1, X1, e1, st1⟩ := initO X0 hx hZ hown (hw _ (own_w 12 rfl)) (hw _ (own_w 13 rfl)) (hw _ (own_w 14 rfl)) e0 (g := (mkF m 1 #[rv a0, rv a1, iv 0, iv 2, .val .null, .unset] [(.ref a0)])) rfl (by rw [hml]; rfl) rfl (hb hby d2_1) (by decide) (W := 0) (by show 2 * 0 + _ ≤ _; exact Nat.le_of_eq rfl) (by decide)
  obtain ⟨T2, X2, e2, st2⟩ := getS2 X1 hx hZ hown (host := "") (Or.inl (hw _ (own_w 37 rfl))) Via.refl e1 hS (g := (mkF m 27 #[rv a0, rv a1, iv 0, iv 2, .val .null, .unset] [])) rfl (hb hby d2_27)
  obtain ⟨_, T3, Lc3, X3, hQ3, st3⟩ := own_callS (W := 0) (y := mN21) X2 hx hZ hown (hw _ (own_w 38 rfl)) (hw _ (own_w 39 rfl)) (hw _ (own_w 40 rfl)) (hw _ (own_w 41 rfl)) (by decide) (rmCp3J_2 l Z av0 hw [] a1 ka c0 c1 h0 n0 Z0 hA hg0 hg1 sA sH sL) (by decide) (by decide) (g := (mkF m 36 #[rv a0, rv a1, iv 0, iv 2, .val .null, .unset] [(.int 2), (.int 0), (.ref a1)])) rfl (by rw [hml]; rfl) (argsL := [(.ref a1), (.int 0), (.int 2)]) (rest := []) (lenOf pd__CII_B rfl) rfl (hb hby d2_36) rfl e2 (by decide : 0 + 2 ≤ _) (by decide : 0 + 6 ≤ _)
  rcases hQ3 with ⟨b3, kb3, rfl, N3q, gb3, K3, V3, lt0_3, lt1_3⟩ | ⟨b3, kb3, rfl, N3q, gb3, K3, V3⟩
  · have N3 := Fr.app N0 N3q
    have e3 : T3.heap = T3.heap := rfl
    have ne_a0_b3 : a0 ≠ b3 := Nat.ne_of_lt (Nat.lt_of_lt_of_le hE.lt gb3)
    have ne_a1_b3 : a1 ≠ b3 := Nat.ne_of_lt (Nat.lt_of_lt_of_le hA.lt gb3)
    have ge_b3 : n0 ≤ b3 := Nat.le_trans Z0 gb3
    have sz_b3 : h0.size ≤ b3 := gb3
    have Zk3 : n0 ≤ T3.heap.size := Nat.le_trans Z0 K3.1
    have Kk3 : Keep h0 T3.heap [a0] := (Keep.refl h0 [a0]).trans K3 all0
    obtain ⟨_, T4, Lc4, X4, hQ4, st4⟩ := own_callS (W := 1) (y := mN22) X3 hx hZ hown (hw _ (own_w 45 rfl)) (hw _ (own_w 46 rfl)) (hw _ (own_w 40 rfl)) (hw _ (own_w 47 rfl)) (by decide) (rmCd_2_0 l Z av0 hw [] b3 kb3 [(.int (own_b c0)), (.int (own_b c1))] T3.heap n0 Zk3 V3) (by decide) (by decide) (g := (mkF m 45 #[rv a0, rv a1, iv 0, iv 2, .val .null, rv b3] [(.int 2), (.ref b3), (.ref a0)])) rfl (by rw [hml]; rfl) (argsL := [(.ref b3), (.int 2)]) (rest := [(.ref a0)]) (lenOf pd__BI_B rfl) rfl (hb hby d2_45) rfl e3 (by decide : 2 + 0 ≤ _) (by decide : 6 + 0 ≤ _)
    obtain ⟨rfl, N4q, hh4⟩ := hQ4
    have N4 := Fr.app N3 N4q
    have e4 : T4.heap = T3.heap := hh4
    have f5 := (hC.keep K3 nin0)
    have f6 := (hE.keep K3)
    obtain ⟨T7, h7, X7, e7, W7, st7⟩ := putFN X4 hx hZ hown (hw _ (own_w 22 rfl)) Via.refl e4 f5 f6 (Or.inr ⟨(hw _ (own_w 18 rfl)), rfl, hnm⟩) (hw _ (own_w 3 rfl)) (ty := .byte) (v' := (.int 0)) (by decide) rfl rfl (g := (mkF m 48 #[rv a0, rv a1, iv 0, iv 2, .val .null, rv b3] [(.int 0), (.ref a0)])) rfl rfl (hb hby d2_48)
    have N7 := Fr.snoc X7 N4 hge
    have Z7 : n0 ≤ h7.size := Nat.le_trans Zk3 (Nat.le_of_eq W7.size.symm)
    have K7 : Keep h0 h7 [a0] := Kk3.wr W7 (Or.inl (List.mem_of_getElem? (i := 0) rfl))
    have Fw7 := f5.same W7
    have f8 := ((hV.keep K3 nin0).other W7 (Or.inr (slot_ne (Or.inr (hw _ (own_w 17 rfl))) (Or.inr (hw _ (own_w 18 rfl))) (by decide) (t := (.array .byte)) (t' := .byte) (by decide) (by decide))))
    have f9 := (f6.wr W7)
    obtain ⟨T10, h10, X10, e10, W10, st10⟩ := putF X7 hx hZ hown (host := "") (Or.inl (hw _ (own_w 21 rfl))) Via.refl e7 f8 f9 (Or.inr ⟨(hw _ (own_w 17 rfl)), rfl, hnm⟩) (hw _ (own_w 3 rfl)) (ty := (.array .byte)) (by decide) rfl rfl (g := (mkF m 54 #[rv a0, rv a1, iv 0, iv 2, .val .null, rv b3] [(.ref b3), (.ref a0)])) rfl rfl (hb hby d2_54)
    have N10 := Fr.snoc X10 N7 hge
    have Z10 : n0 ≤ h10.size := Nat.le_trans Z7 (Nat.le_of_eq W10.size.symm)
    have K10 : Keep h0 h10 [a0] := K7.wr W10 (Or.inl (List.mem_of_getElem? (i := 0) rfl))
    have Fw10 := f8.same W10
    have S11 : ∀ t, oS p e below T10 (mkF m 57 #[rv a0, rv a1, iv 0, iv 2, .val .null, rv b3] []) t → oS p e below s₁ (mkF m 0 #[rv a0, rv a1, iv 0, iv 2, .val .null, .unset] []) t := fun t k => id (by
      show oS p e below s₁ (mkF m 0 #[rv a0, rv a1, iv 0, iv 2, .val .null, .unset] []) _
      refine XS.aloadN X0.here hx rfl (hb hby d2_0) rfl rfl ?_
      refine st1 _ ?_
      refine XS.iloadN X1.here hx rfl (hb hby d2_4) rfl ?_
      refine XS.ifYes X1.here hx rfl (pc0 := 5) (pc' := 27) rfl (hb hby d2_5) rfl (XT.i0_ne_t (by decide)) (by decide) (by decide) ?_
      refine st2 _ ?_
      refine XS.ifNo X2.here hx rfl (hb hby d2_30) rfl (XT.i0_eq_f hw0) ?_
      refine XS.aloadN X2.here hx rfl (hb hby d2_33) rfl rfl ?_
      refine XS.iloadN X2.here hx rfl (hb hby d2_34) rfl ?_
      refine XS.iloadN X2.here hx rfl (hb hby d2_35) rfl ?_
      refine st3 _ ?_
      refine XS.astore X3.here hx rfl (hb hby d2_39) rfl rfl (l' := #[rv a0, rv a1, iv 0, iv 2, .val .null, rv b3]) rfl ?_
      refine XS.aloadN X3.here hx rfl (hb hby d2_41) rfl rfl ?_
      refine XS.aload X3.here hx rfl (hb hby d2_42) rfl rfl ?_
      refine XS.iloadN X3.here hx rfl (hb hby d2_44) rfl ?_
      refine st4 _ ?_
      refine st7 _ ?_
      refine XS.aloadN X7.here hx rfl (hb hby d2_51) rfl rfl ?_
      refine XS.aload X7.here hx rfl (hb hby d2_52) rfl rfl ?_
      refine st10 _ ?_
      exact k)
    obtain ⟨fs, hr, hrun, hended, hW, hsame⟩ := X10.leave (v := none) (fun _ => rfl)
    refine ⟨_, _, pre0 _ (S11 _ ?_), hrun, hended, _, _, rfl, ?_, ⟨_, rfl⟩, hW, hsame.mono (by decide) (by decide)⟩
    · exact X10.returnOut hx Bd.returns (hb hby d2_57) hr
    have f12 := (Fw7.other W10 (Or.inr (slot_ne (Or.inr (hw _ (own_w 18 rfl))) (Or.inr (hw _ (own_w 17 rfl))) (by decide) (t := .byte) (t' := (.array .byte)) (by decide) (by decide))))
    have f13 := ((V3.other W7 (Ne.symm ne_a0_b3)).other W10 (Ne.symm ne_a0_b3))
    · show QrmSi4_2 Z a0 a1 ka wC c0 c1 h0 n0 _ T10.heap _
      rw [e10]
      exact ⟨rfl, N10, K10, Or.inl ⟨b3, _, Fw10, f12, f13, lt0_3, lt1_3⟩⟩
  · have N3 := Fr.app N0 N3q
    have e3 : T3.heap = T3.heap := rfl
    have ne_a0_b3 : a0 ≠ b3 := Nat.ne_of_lt (Nat.lt_of_lt_of_le hE.lt gb3)
    have ne_a1_b3 : a1 ≠ b3 := Nat.ne_of_lt (Nat.lt_of_lt_of_le hA.lt gb3)
    have ge_b3 : n0 ≤ b3 := Nat.le_trans Z0 gb3
    have sz_b3 : h0.size ≤ b3 := gb3
    have Zk3 : n0 ≤ T3.heap.size := Nat.le_trans Z0 K3.1
    have Kk3 : Keep h0 T3.heap [a0] := (Keep.refl h0 [a0]).trans K3 all0
    obtain ⟨_, T14, Lc14, X14, hQ14, st14⟩ := own_callS (W := 1) (y := mN22) X3 hx hZ hown (hw _ (own_w 45 rfl)) (hw _ (own_w 46 rfl)) (hw _ (own_w 40 rfl)) (hw _ (own_w 47 rfl)) (by decide) (rmCd_2_1 l Z av0 hw [] b3 kb3 [(.int (own_lo c0)), (.int (own_hi c0)), (.int (own_lo c1)), (.int (own_hi c1))] T3.heap n0 Zk3 V3) (by decide) (by decide) (g := (mkF m 45 #[rv a0, rv a1, iv 0, iv 2, .val .null, rv b3] [(.int 2), (.ref b3), (.ref a0)])) rfl (by rw [hml]; rfl) (argsL := [(.ref b3), (.int 2)]) (rest := [(.ref a0)]) (lenOf pd__BI_B rfl) rfl (hb hby d2_45) rfl e3 (by decide : 2 + 0 ≤ _) (by decide : 6 + 0 ≤ _)
    obtain ⟨rfl, N14q, hh14⟩ := hQ14
    have N14 := Fr.app N3 N14q
    have e14 : T14.heap = T3.heap := hh14
    have f15 := (hC.keep K3 nin0)
    have f16 := (hE.keep K3)
    obtain ⟨T17, h17, X17, e17, W17, st17⟩ := putFN X14 hx hZ hown (hw _ (own_w 22 rfl)) Via.refl e14 f15 f16 (Or.inr ⟨(hw _ (own_w 18 rfl)), rfl, hnm⟩) (hw _ (own_w 3 rfl)) (ty := .byte) (v' := (.int 1)) (by decide) rfl rfl (g := (mkF m 48 #[rv a0, rv a1, iv 0, iv 2, .val .null, rv b3] [(.int 1), (.ref a0)])) rfl rfl (hb hby d2_48)
    have N17 := Fr.snoc X17 N14 hge
    have Z17 : n0 ≤ h17.size := Nat.le_trans Zk3 (Nat.le_of_eq W17.size.symm)
    have K17 : Keep h0 h17 [a0] := Kk3.wr W17 (Or.inl (List.mem_of_getElem? (i := 0) rfl))
    have Fw17 := f15.same W17
    have f18 := ((hV.keep K3 nin0).other W17 (Or.inr (slot_ne (Or.inr (hw _ (own_w 17 rfl))) (Or.inr (hw _ (own_w 18 rfl))) (by decide) (t := (.array .byte)) (t' := .byte) (by decide) (by decide))))
    have f19 := (f16.wr W17)
    obtain ⟨T20, h20, X20, e20, W20, st20⟩ := putF X17 hx hZ hown (host := "") (Or.inl (hw _ (own_w 21 rfl))) Via.refl e17 f18 f19 (Or.inr ⟨(hw _ (own_w 17 rfl)), rfl, hnm⟩) (hw _ (own_w 3 rfl)) (ty := (.array .byte)) (by decide) rfl rfl (g := (mkF m 54 #[rv a0, rv a1, iv 0, iv 2, .val .null, rv b3] [(.ref b3), (.ref a0)])) rfl rfl (hb hby d2_54)
    have N20 := Fr.snoc X20 N17 hge
    have Z20 : n0 ≤ h20.size := Nat.le_trans Z17 (Nat.le_of_eq W20.size.symm)
    have K20 : Keep h0 h20 [a0] := K17.wr W20 (Or.inl (List.mem_of_getElem? (i := 0) rfl))
    have Fw20 := f18.same W20
    have S21 : ∀ t, oS p e below T20 (mkF m 57 #[rv a0, rv a1, iv 0, iv 2, .val .null, rv b3] []) t → oS p e below s₁ (mkF m 0 #[rv a0, rv a1, iv 0, iv 2, .val .null, .unset] []) t := fun t k => id (by
      show oS p e below s₁ (mkF m 0 #[rv a0, rv a1, iv 0, iv 2, .val .null, .unset] []) _
      refine XS.aloadN X0.here hx rfl (hb hby d2_0) rfl rfl ?_
      refine st1 _ ?_
      refine XS.iloadN X1.here hx rfl (hb hby d2_4) rfl ?_
      refine XS.ifYes X1.here hx rfl (pc0 := 5) (pc' := 27) rfl (hb hby d2_5) rfl (XT.i0_ne_t (by decide)) (by decide) (by decide) ?_
      refine st2 _ ?_
      refine XS.ifNo X2.here hx rfl (hb hby d2_30) rfl (XT.i0_eq_f hw0) ?_
      refine XS.aloadN X2.here hx rfl (hb hby d2_33) rfl rfl ?_
      refine XS.iloadN X2.here hx rfl (hb hby d2_34) rfl ?_
      refine XS.iloadN X2.here hx rfl (hb hby d2_35) rfl ?_
      refine st3 _ ?_
      refine XS.astore X3.here hx rfl (hb hby d2_39) rfl rfl (l' := #[rv a0, rv a1, iv 0, iv 2, .val .null, rv b3]) rfl ?_
      refine XS.aloadN X3.here hx rfl (hb hby d2_41) rfl rfl ?_
      refine XS.aload X3.here hx rfl (hb hby d2_42) rfl rfl ?_
      refine XS.iloadN X3.here hx rfl (hb hby d2_44) rfl ?_
      refine st14 _ ?_
      refine st17 _ ?_
      refine XS.aloadN X17.here hx rfl (hb hby d2_51) rfl rfl ?_
      refine XS.aload X17.here hx rfl (hb hby d2_52) rfl rfl ?_
      refine st20 _ ?_
      exact k)
    obtain ⟨fs, hr, hrun, hended, hW, hsame⟩ := X20.leave (v := none) (fun _ => rfl)
    refine ⟨_, _, pre0 _ (S21 _ ?_), hrun, hended, _, _, rfl, ?_, ⟨_, rfl⟩, hW, hsame.mono (by decide) (by decide)⟩
    · exact X20.returnOut hx Bd.returns (hb hby d2_57) hr
    have f22 := (Fw17.other W20 (Or.inr (slot_ne (Or.inr (hw _ (own_w 18 rfl))) (Or.inr (hw _ (own_w 17 rfl))) (by decide) (t := .byte) (t' := (.array .byte)) (by decide) (by decide))))
    have f23 := ((V3.other W17 (Ne.symm ne_a0_b3)).other W20 (Ne.symm ne_a0_b3))
    · show QrmSi4_2 Z a0 a1 ka wC c0 c1 h0 n0 _ T20.heap _
      rw [e20]
      exact ⟨rfl, N20, K20, Or.inr ⟨b3, _, Fw20, f22, f23⟩⟩
def QrmSi2_2 (Z : State) (a0 : Addr) (a1 : Addr) (ka : ClassId) (wC : Int32) (c0 : Int32) (c1 : Int32) (h0 : Heap) (n0 : Nat) (v : Option Value) (h : Heap) (L : List Loc) : Prop := v = none ∧ Fr n0 L ∧ Keep h0 h [a0] ∧ own_St2 Z h a0 c0 c1
set_option maxRecDepth 65536 in
set_option maxHeartbeats 40000000 in
theorem rmSi2_2 (l : Launch) (Z : State) (av0 : Array Value) (hw : ∀ d ∈ tables_1, d.before av0 Z = true) (ws : List Jvm.Cond) (a0 : Addr) (a1 : Addr) (ka : ClassId) (wC : Int32) (c0 : Int32) (c1 : Int32) (h0 : Heap) (n0 : Nat) (Z0 : n0 ≤ h0.size) (hE : Exa Z h0 a0 "java/lang/String") (hV : Fld Z h0 a0 "java/lang/String" "value" "[B" .null) (hC : Fld Z h0 a0 "java/lang/String" "coder" "B" (.int (0 : Int32))) (hge : n0 ≤ a0) (hA : Arv Z h0 a1 ka .char (2 : Int32) [(.int c0), (.int c1)] (.int (0 : Int32))) (hS : Sta Z h0 "java/lang/String" "COMPACT_STRINGS" "Z" (.int wC)) (hw0 : ¬ wC = (0 : Int32)) (hg0 : 0 ≤ c0.toInt ∧ c0.toInt < 65536) (hg1 : 0 ≤ c1.toInt ∧ c1.toInt < 65536) (sA : Sta Z h0 "java/lang/StringUTF16" "$assertionsDisabled" "Z" (.int (1 : Int32))) (sH : Sta Z h0 "java/lang/StringUTF16" "HI_BYTE_SHIFT" "I" (.int (0 : Int32))) (sL : Sta Z h0 "java/lang/StringUTF16" "LO_BYTE_SHIFT" "I" (.int (8 : Int32))) :
    own_Met l mN3 jdk_42_method_3_code 2 none ws ({ frames := 5, cells := 2, slots := 6, locals := 74 } : Room) #[(.ref a0), (.ref a1)] Z h0 (QrmSi2_2 Z a0 a1 ka wC c0 c1 h0 n0) := by
  refine MetFree.of_bodySF (plainFor_of_name pn_String) hisR ?_
  intro p e s m args below meth c s₁ Bd hml0 hP hK
  obtain ⟨rfl, hZ, hh⟩ := hP
  have hml : c.maxLocals = 2 := hml0
  obtain ⟨hx, hby, hown, hnm, X0, e0⟩ := own_start Bd hml0 hh
  have N0 := Fr.nil n0
  have pre0 : ∀ t, oS p e below s₁ (mkF m 0 #[rv a0, rv a1] []) t → Steps p.tables e below (s₁.setTop (entryFrame m #[(.ref a0), (.ref a1)] 2)) t := fun t k => castTop (by first | (simp [entryFrame, mkF, argsToLocals, Value.category]; done) | rfl) k
  obtain ⟨cl1, Ar1, qk1, Sz1, Ng1, Hs1, Gs1⟩ := id hA
  obtain ⟨_, T2, Lc2, X2, hQ2, st2⟩ := own_special (W := 0) (y := mN2) X0 hx hZ rfl hown (hw _ (own_w 8 rfl)) (hw _ (own_w 9 rfl)) (hw _ (own_w 11 rfl)) (hw _ (own_w 4 rfl)) (by decide) (rmSi4_2 l Z av0 hw [] a0 a1 ka wC c0 c1 h0 n0 Z0 hE hV hC hge hA hS hw0 hg0 hg1 sA sH sL) (by decide) (by decide) (g := (mkF m 6 #[rv a0, rv a1] [.null, (.int 2), (.int 0), (.ref a1), (.ref a0)])) rfl (by rw [hml]; rfl) (a := a0) (argsL := [(.ref a1), (.int 0), (.int 2), .null]) (rest := []) (lenOf pd__CIILjava_lang_Void_V rfl) rfl (hb hby d1_6) rfl e0 (by decide : 0 + 2 ≤ _) (by decide : 0 + 6 ≤ _)
  obtain ⟨rfl, N2q, K2, St2⟩ := hQ2
  have N2 := Fr.app N0 N2q
  have e2 : T2.heap = T2.heap := rfl
  have Zk2 : n0 ≤ T2.heap.size := Nat.le_trans Z0 K2.1
  have Kk2 : Keep h0 T2.heap [a0] := (Keep.refl h0 [a0]).trans K2 (allS (Or.inl (List.mem_of_getElem? (i := 0) rfl)) all0)
  have S3 : ∀ t, oS p e below T2 (mkF m 9 #[rv a0, rv a1] []) t → oS p e below s₁ (mkF m 0 #[rv a0, rv a1] []) t := fun t k => id (by
    show oS p e below s₁ (mkF m 0 #[rv a0, rv a1] []) _
    refine XS.aloadN X0.here hx rfl (hb hby d1_0) rfl rfl ?_
    refine XS.aloadN X0.here hx rfl (hb hby d1_1) rfl rfl ?_
    refine XT.iconstV X0.here hx rfl (0 : Int32) (hb hby d1_2) (by decide) ?_
    refine XS.aloadN X0.here hx rfl (hb hby d1_3) rfl rfl ?_
    refine X0.arraylength hx (by rw [e0]; exact Ar1.1) (State.isArrayOf_alike hZ.alike Ar1.2.1) (g := (mkF m 4 #[rv a0, rv a1] [(.ref a1), (.int 0), (.ref a1), (.ref a0)])) rfl rfl (hb hby d1_4) _ ?_
    rw [len_of Sz1 Ng1]
    refine XS.aconstNull X0.here hx rfl (hb hby d1_5) ?_
    refine st2 _ ?_
    exact k)
  obtain ⟨fs, hr, hrun, hended, hW, hsame⟩ := X2.leave (v := none) (fun _ => rfl)
  refine ⟨_, _, pre0 _ (S3 _ ?_), hrun, hended, _, _, rfl, ?_, ⟨_, rfl⟩, hW, hsame.mono (by decide) (by decide)⟩
  · exact X2.returnOut hx Bd.returns (hb hby d1_9) hr
  · show QrmSi2_2 Z a0 a1 ka wC c0 c1 h0 n0 _ T2.heap _
    rw [e2]
    exact ⟨rfl, N2, Kk2, St2⟩
set_option maxRecDepth 65536 in
set_option maxHeartbeats 40000000 in
theorem rm0_2 (l : Launch) (Z : State) (av0 : Array Value) (hw : ∀ d ∈ tables_1, d.before av0 Z = true) (ws : List Jvm.Cond) (p0 : Int32) (p1 : Int32) (p2 : Int32) (p3 : Int32) (p4 : Int32) (wC : Int32) (fm : Value) (h0 : Heap) (n0 : Nat) (Z0 : n0 ≤ h0.size) (hS : Sta Z h0 "java/lang/String" "COMPACT_STRINGS" "Z" (.int wC)) (hw0 : ¬ wC = (0 : Int32)) (hfm : fm.isRef = true) (hF : Sta Z h0 "jdk/internal/util/Preconditions" "SIOOBE_FORMATTER" "Ljava/util/function/BiFunction;" fm) (sA : Sta Z h0 "java/lang/StringUTF16" "$assertionsDisabled" "Z" (.int (1 : Int32))) (sH : Sta Z h0 "java/lang/StringUTF16" "HI_BYTE_SHIFT" "I" (.int (0 : Int32))) (sL : Sta Z h0 "java/lang/StringUTF16" "LO_BYTE_SHIFT" "I" (.int (8 : Int32))) (hkp : ∀ (b : Addr) (cl : Cell), Z.heap[b]? = some cl → h0[b]? = some cl) (hcH : Jvm.Lit.constHeld Z "java/lang/String" 7) (hcw : Jvm.Lit.compactW.before av0 Z = true) (hk : own_P p0 (5 : Int32) = (2 : Int32)) :
    MetFree l x (head1 (Jvm.Cond.code x code maxLocals ret :: ws) room_1) (fun aU U => aU = #[(.int p0), (.int p1), (.int p2), (.int p3), (.int p4)] ∧ Z.Warmed39 U.vm ∧ U.heap = h0 ∧ IB Z U.vm []) (fun _ _ _ _ _ => True) (fun _ U oU U' => ∃ vU LU, oU = .returned vU ∧ Qrm0 Z p0 p1 p2 p3 p4 wC fm h0 n0 vU U'.heap LU ∧ ReturnedEndW U oU U' LU room_1.cells room_1.slots) := by
  refine MetFree.of_bodySF (plainFor_of_name pn_XsNamesIsNamespaceNamePinLaw) hisR ?_
  intro p e s m args below meth c s₁ Bd hml0 hP hK
  obtain ⟨rfl, hZ, hh, hI⟩ := hP
  have hml : c.maxLocals = 13 := hml0
  obtain ⟨hx, hby, hown, hnm, X0, e0⟩ := own_start Bd hml0 hh
  have N0 := Fr.nil n0
  have pre0 : ∀ t, oS p e below s₁ (mkF m 0 #[iv p0, iv p1, iv p2, iv p3, iv p4, .unset, .unset, .unset, .unset, .unset, .unset, .unset, .unset] []) t → Steps p.tables e below (s₁.setTop (entryFrame m #[(.int p0), (.int p1), (.int p2), (.int p3), (.int p4)] maxLocals)) t := fun t k => castTop (by first | (simp [entryFrame, mkF, argsToLocals, Value.category, maxLocals]; done) | rfl) k
  obtain ⟨T1, h1, k1, X1, e1, E1, A1, st1⟩ := newP X0 hx hZ (hw _ (own_w 1 rfl)) e0 (g := (mkF m 27 #[iv p0, iv p1, iv p2, iv p3, iv p4, iv 2, iv (own_c p1), iv (own_c p2), iv (own_c p3), iv (own_c p4), .unset, .unset, .unset] [(.int 2)])) rfl (hb hby at_27) rfl (by decide) (cap := 2) (by decide) (by decide) (by decide) (by decide)
  obtain ⟨b1, g1⟩ : ∃ z, z = h0.size := ⟨_, rfl⟩
  rw [← g1] at A1 st1
  have ge_b1 : n0 ≤ b1 := Nat.le_trans Z0 (Nat.le_of_eq g1.symm)
  have sz_b1 : h0.size ≤ b1 := Nat.le_of_eq g1.symm
  have Z1 : n0 ≤ h1.size := Nat.le_trans Z0 E1.1
  have K1 : Keep h0 h1 [] := (Keep.refl h0 []).ext E1
  have V1 : Arv Z h1 b1 k1 .char (2 : Int32) [(.int (0 : Int32)), (.int (0 : Int32))] (.int (0 : Int32)) := (Arv.new A1 (by decide)).pad (pad_rep [] (.int (0 : Int32)) 2)
  obtain ⟨cl2, Ar2, qk2, Sz2, Ng2, Hs2, Gs2⟩ := id V1
  have hin2 : ¬ ((0 : Int32) < 0 ∨ cl2.slots.size ≤ ((0 : Int32)).toNatClampNeg) := inb_of Sz2 ⟨by decide, by decide⟩
  obtain ⟨T3, h3, X3, e3, W3, st3⟩ := stC X1 hx hZ e1 Ar2 (j := (0 : Int32)) hin2 (g := (mkF m 41 #[iv p0, iv p1, iv p2, iv p3, iv p4, iv 2, iv (own_c p1), iv (own_c p2), iv (own_c p3), iv (own_c p4), rv b1, .unset, .unset] [(.int (own_c p1)), (.int 0), (.ref b1)])) rfl rfl (hb hby at_41)
  have N3 := Fr.snoc X3 N0 ge_b1
  have Z3 : n0 ≤ h3.size := Nat.le_trans Z1 (Nat.le_of_eq W3.size.symm)
  have K3 : Keep h0 h3 [] := K1.wr W3 (Or.inr sz_b1)
  rw [own_nc] at W3
  have V3 : Arv Z h3 b1 k1 .char (2 : Int32) [(.int (own_c p1)), (.int (0 : Int32))] (.int (0 : Int32)) := Arv.set Ar2 qk2 Sz2 Ng2 Hs2 Gs2 (own_fc _) W3 0 rfl (Nat.le_of_ble_eq_true rfl)
  obtain ⟨cl4, Ar4, qk4, Sz4, Ng4, Hs4, Gs4⟩ := id V3
  have hin4 : ¬ ((1 : Int32) < 0 ∨ cl4.slots.size ≤ ((1 : Int32)).toNatClampNeg) := inb_of Sz4 ⟨by decide, by decide⟩
  obtain ⟨T5, h5, X5, e5, W5, st5⟩ := stC X3 hx hZ e3 Ar4 (j := (1 : Int32)) hin4 (g := (mkF m 53 #[iv p0, iv p1, iv p2, iv p3, iv p4, iv 2, iv (own_c p1), iv (own_c p2), iv (own_c p3), iv (own_c p4), rv b1, .unset, .unset] [(.int (own_c p2)), (.int 1), (.ref b1)])) rfl rfl (hb hby at_53)
  have N5 := Fr.snoc X5 N3 ge_b1
  have Z5 : n0 ≤ h5.size := Nat.le_trans Z3 (Nat.le_of_eq W5.size.symm)
  have K5 : Keep h0 h5 [] := K3.wr W5 (Or.inr sz_b1)
  rw [own_nc] at W5
  have V5 : Arv Z h5 b1 k1 .char (2 : Int32) [(.int (own_c p1)), (.int (own_c p2))] (.int (0 : Int32)) := Arv.set Ar4 qk4 Sz4 Ng4 Hs4 Gs4 (own_fc _) W5 1 rfl (Nat.le_of_ble_eq_true rfl)
  obtain ⟨T6, h6, X6, e6, E6, A6, D6, -, st6⟩ := newO X5 hx hZ hown (hw _ (own_w 2 rfl)) (hw _ (own_w 3 rfl)) (hw _ (own_w 4 rfl)) e5 (g := (mkF m 78 #[iv p0, iv p1, iv p2, iv p3, iv p4, iv 2, iv (own_c p1), iv (own_c p2), iv (own_c p3), iv (own_c p4), rv b1, .unset, .unset] [])) rfl (hb hby at_78) (by decide) (by decide)
  obtain ⟨b6, g6⟩ : ∃ z, z = h5.size := ⟨_, rfl⟩
  rw [← g6] at A6 D6 st6
  have ne_b1_b6 : b1 ≠ b6 := Nat.ne_of_lt (Nat.lt_of_lt_of_le V5.lt (Nat.le_of_eq g6.symm))
  have ge_b6 : n0 ≤ b6 := Nat.le_trans Z5 (Nat.le_of_eq g6.symm)
  have sz_b6 : h0.size ≤ b6 := Nat.le_trans K5.1 (Nat.le_of_eq g6.symm)
  have Z6 : n0 ≤ h6.size := Nat.le_trans Z5 E6.1
  have K6 : Keep h0 h6 [] := K5.ext E6
  have F6_value : Fld Z h6 b6 "java/lang/String" "value" "[B" .null := D6 (Or.inr (hw _ (own_w 17 rfl))) (ty := (.array .byte)) (by decide)
  have F6_coder : Fld Z h6 b6 "java/lang/String" "coder" "B" (.int 0) := D6 (Or.inr (hw _ (own_w 18 rfl))) (ty := .byte) (by decide)
  have f7 := (V5.ext E6)
  have f8 := ((((hS.ext E1).wr W3).wr W5).ext E6)
  have f9 := ((((sA.ext E1).wr W3).wr W5).ext E6)
  have f10 := ((((sH.ext E1).wr W3).wr W5).ext E6)
  have f11 := ((((sL.ext E1).wr W3).wr W5).ext E6)
  obtain ⟨_, T12, Lc12, X12, hQ12, st12⟩ := own_special (W := 1) (y := mN3) X6 hx hZ rfl hown (hw _ (own_w 5 rfl)) (hw _ (own_w 6 rfl)) (hw _ (own_w 7 rfl)) (hw _ (own_w 4 rfl)) (by decide) (rmSi2_2 l Z av0 hw [] b6 b1 k1 wC (own_c p1) (own_c p2) h6 n0 Z6 A6 F6_value F6_coder ge_b6 f7 f8 hw0 (own_cr p1) (own_cr p2) f9 f10 f11) (by decide) (by decide) (g := (mkF m 84 #[iv p0, iv p1, iv p2, iv p3, iv p4, iv 2, iv (own_c p1), iv (own_c p2), iv (own_c p3), iv (own_c p4), rv b1, .unset, .unset] [(.ref b1), (.ref b6), (.ref b6)])) rfl (by rw [hml]; rfl) (a := b6) (argsL := [(.ref b1)]) (rest := [(.ref b6)]) (lenOf pd__C_V rfl) rfl (hb hby at_84) rfl e6 (by decide : 2 + 2 ≤ _) (by decide : 6 + 6 ≤ _)
  obtain ⟨rfl, N12q, K12, St12⟩ := hQ12
  have N12 := Fr.app N5 N12q
  have e12 : T12.heap = T12.heap := rfl
  have Zk12 : n0 ≤ T12.heap.size := Nat.le_trans Z6 K12.1
  have Kk12 : Keep h0 T12.heap [] := K6.trans K12 (allS (Or.inr sz_b6) all0)
  obtain ⟨_, T13, Lc13, X13, hQ13, st13⟩ := own_callS (W := 0) (y := mN1) X12 hx hZ hown (hw _ (own_w 48 rfl)) (hw _ (own_w 49 rfl)) (hw _ (own_w 50 rfl)) (hw _ (own_w 51 rfl)) (by decide) (rmA l Z av0 hw [] (own_c p1) T12.heap n0 Zk12 ) (by decide) (by decide) (g := (mkF m 97 #[iv p0, iv p1, iv p2, iv p3, iv p4, iv 2, iv (own_c p1), iv (own_c p2), iv (own_c p3), iv (own_c p4), rv b1, rv b6, .unset] [(.int (own_c p1))])) rfl (by rw [hml]; rfl) (argsL := [(.int (own_c p1))]) (rest := []) (lenOf pd__C_Z rfl) rfl (hb hby at_97) rfl e12 (by decide : 4 + 0 ≤ _) (by decide : 12 + 0 ≤ _)
  obtain ⟨rfl, N13q, hh13⟩ := hQ13
  have N13 := Fr.app N12 N13q
  have e13 : T13.heap = T12.heap := hh13
  have S14 : ∀ t, oS p e below T13 (mkF m 100 #[iv p0, iv p1, iv p2, iv p3, iv p4, iv 2, iv (own_c p1), iv (own_c p2), iv (own_c p3), iv (own_c p4), rv b1, rv b6, .unset] [(.int (own_al (own_c p1)))]) t → oS p e below s₁ (mkF m 0 #[iv p0, iv p1, iv p2, iv p3, iv p4, .unset, .unset, .unset, .unset, .unset, .unset, .unset, .unset] []) t := fun t k => id (by
    show oS p e below s₁ (mkF m 0 #[iv p0, iv p1, iv p2, iv p3, iv p4, .unset, .unset, .unset, .unset, .unset, .unset, .unset, .unset] []) _
    refine XS.iloadN X0.here hx rfl (hb hby at_0) rfl ?_
    refine X0.ldcI hx hown (mvT hZ (hw _ (own_w 0 rfl))) rfl (hb hby at_1) ?_
    refine XS.iand X0.here hx rfl (hb hby at_3) rfl ?_
    refine XT.iconstV X0.here hx rfl (5 : Int32) (hb hby at_4) (by decide) ?_
    refine XS.irem X0.here hx rfl (hb hby at_5) rfl (by decide) ?_
    show oS p e below s₁ (mkF m 6 #[iv p0, iv p1, iv p2, iv p3, iv p4, .unset, .unset, .unset, .unset, .unset, .unset, .unset, .unset] [(.int ((p0 &&& (2147483647 : Int32)) - ((p0 &&& (2147483647 : Int32)) / (5 : Int32)) * (5 : Int32)))]) _
    show Steps p.tables e below (s₁.setTop (mkF m 6 #[iv p0, iv p1, iv p2, iv p3, iv p4, .unset, .unset, .unset, .unset, .unset, .unset, .unset, .unset] [(.int (own_P p0 (5 : Int32)))])) _
    rw [hk]
    show oS p e below s₁ (mkF m 6 #[iv p0, iv p1, iv p2, iv p3, iv p4, .unset, .unset, .unset, .unset, .unset, .unset, .unset, .unset] [(.int 2)]) _
    refine XS.istore X0.here hx rfl (hb hby at_6) rfl (l' := #[iv p0, iv p1, iv p2, iv p3, iv p4, iv 2, .unset, .unset, .unset, .unset, .unset, .unset, .unset]) rfl ?_
    refine XS.iloadN X0.here hx rfl (hb hby at_8) rfl ?_
    refine XT.i2c X0.here hx rfl (hb hby at_9) rfl ?_
    show oS p e below s₁ (mkF m 10 #[iv p0, iv p1, iv p2, iv p3, iv p4, iv 2, .unset, .unset, .unset, .unset, .unset, .unset, .unset] [(.int (p1).toUInt32.toUInt16.toUInt32.toInt32)]) _
    skip
    show oS p e below s₁ (mkF m 10 #[iv p0, iv p1, iv p2, iv p3, iv p4, iv 2, .unset, .unset, .unset, .unset, .unset, .unset, .unset] [(.int (own_c p1))]) _
    refine XS.istore X0.here hx rfl (hb hby at_10) rfl (l' := #[iv p0, iv p1, iv p2, iv p3, iv p4, iv 2, iv (own_c p1), .unset, .unset, .unset, .unset, .unset, .unset]) rfl ?_
    refine XS.iloadN X0.here hx rfl (hb hby at_12) rfl ?_
    refine XT.i2c X0.here hx rfl (hb hby at_13) rfl ?_
    show oS p e below s₁ (mkF m 14 #[iv p0, iv p1, iv p2, iv p3, iv p4, iv 2, iv (own_c p1), .unset, .unset, .unset, .unset, .unset, .unset] [(.int (p2).toUInt32.toUInt16.toUInt32.toInt32)]) _
    skip
    show oS p e below s₁ (mkF m 14 #[iv p0, iv p1, iv p2, iv p3, iv p4, iv 2, iv (own_c p1), .unset, .unset, .unset, .unset, .unset, .unset] [(.int (own_c p2))]) _
    refine XS.istore X0.here hx rfl (hb hby at_14) rfl (l' := #[iv p0, iv p1, iv p2, iv p3, iv p4, iv 2, iv (own_c p1), iv (own_c p2), .unset, .unset, .unset, .unset, .unset]) rfl ?_
    refine XS.iloadN X0.here hx rfl (hb hby at_16) rfl ?_
    refine XT.i2c X0.here hx rfl (hb hby at_17) rfl ?_
    show oS p e below s₁ (mkF m 18 #[iv p0, iv p1, iv p2, iv p3, iv p4, iv 2, iv (own_c p1), iv (own_c p2), .unset, .unset, .unset, .unset, .unset] [(.int (p3).toUInt32.toUInt16.toUInt32.toInt32)]) _
    skip
    show oS p e below s₁ (mkF m 18 #[iv p0, iv p1, iv p2, iv p3, iv p4, iv 2, iv (own_c p1), iv (own_c p2), .unset, .unset, .unset, .unset, .unset] [(.int (own_c p3))]) _
    refine XS.istore X0.here hx rfl (hb hby at_18) rfl (l' := #[iv p0, iv p1, iv p2, iv p3, iv p4, iv 2, iv (own_c p1), iv (own_c p2), iv (own_c p3), .unset, .unset, .unset, .unset]) rfl ?_
    refine XS.iload X0.here hx rfl (hb hby at_20) rfl ?_
    show oS p e below s₁ (mkF m 22 #[iv p0, iv p1, iv p2, iv p3, iv p4, iv 2, iv (own_c p1), iv (own_c p2), iv (own_c p3), .unset, .unset, .unset, .unset] [(.int p4)]) _
    refine XT.i2c X0.here hx rfl (hb hby at_22) rfl ?_
    show oS p e below s₁ (mkF m 23 #[iv p0, iv p1, iv p2, iv p3, iv p4, iv 2, iv (own_c p1), iv (own_c p2), iv (own_c p3), .unset, .unset, .unset, .unset] [(.int (p4).toUInt32.toUInt16.toUInt32.toInt32)]) _
    skip
    show oS p e below s₁ (mkF m 23 #[iv p0, iv p1, iv p2, iv p3, iv p4, iv 2, iv (own_c p1), iv (own_c p2), iv (own_c p3), .unset, .unset, .unset, .unset] [(.int (own_c p4))]) _
    refine XS.istore X0.here hx rfl (hb hby at_23) rfl (l' := #[iv p0, iv p1, iv p2, iv p3, iv p4, iv 2, iv (own_c p1), iv (own_c p2), iv (own_c p3), iv (own_c p4), .unset, .unset, .unset]) rfl ?_
    refine XS.iload X0.here hx rfl (hb hby at_25) rfl ?_
    refine st1 _ ?_
    refine XS.astore X1.here hx rfl (hb hby at_29) rfl rfl (l' := #[iv p0, iv p1, iv p2, iv p3, iv p4, iv 2, iv (own_c p1), iv (own_c p2), iv (own_c p3), iv (own_c p4), rv b1, .unset, .unset]) rfl ?_
    refine XS.iload X1.here hx rfl (hb hby at_31) rfl ?_
    refine XS.ifNo X1.here hx rfl (hb hby at_33) rfl (XT.i0_le_f (by decide)) ?_
    refine XS.aload X1.here hx rfl (hb hby at_36) rfl rfl ?_
    refine XT.iconstV X1.here hx rfl (0 : Int32) (hb hby at_38) (by decide) ?_
    refine XS.iload X1.here hx rfl (hb hby at_39) rfl ?_
    refine st3 _ ?_
    refine XS.iload X3.here hx rfl (hb hby at_42) rfl ?_
    refine XT.iconstV X3.here hx rfl (1 : Int32) (hb hby at_44) (by decide) ?_
    refine XS.icmpNo X3.here hx rfl (hb hby at_45) rfl (XT.ii_le_f (by decide)) ?_
    refine XS.aload X3.here hx rfl (hb hby at_48) rfl rfl ?_
    refine XT.iconstV X3.here hx rfl (1 : Int32) (hb hby at_50) (by decide) ?_
    refine XS.iload X3.here hx rfl (hb hby at_51) rfl ?_
    refine st5 _ ?_
    refine XS.iload X5.here hx rfl (hb hby at_54) rfl ?_
    show oS p e below T5 (mkF m 56 #[iv p0, iv p1, iv p2, iv p3, iv p4, iv 2, iv (own_c p1), iv (own_c p2), iv (own_c p3), iv (own_c p4), rv b1, .unset, .unset] [(.int 2)]) _
    refine XT.iconstV X5.here hx rfl (2 : Int32) (hb hby at_56) (by decide) ?_
    refine XS.icmpYes X5.here hx rfl (pc0 := 57) (pc' := 66) rfl (hb hby at_57) rfl (XT.ii_le_t (by decide)) (by decide) (by decide) ?_
    refine XS.iload X5.here hx rfl (hb hby at_66) rfl ?_
    refine XT.iconstV X5.here hx rfl (3 : Int32) (hb hby at_68) (by decide) ?_
    refine XS.icmpYes X5.here hx rfl (pc0 := 69) (pc' := 78) rfl (hb hby at_69) rfl (XT.ii_le_t (by decide)) (by decide) (by decide) ?_
    refine st6 _ ?_
    refine XS.dup X6.here hx rfl (hb hby at_81) rfl rfl ?_
    refine XS.aload X6.here hx rfl (hb hby at_82) rfl rfl ?_
    refine st12 _ ?_
    refine XS.astore X12.here hx rfl (hb hby at_87) rfl rfl (l' := #[iv p0, iv p1, iv p2, iv p3, iv p4, iv 2, iv (own_c p1), iv (own_c p2), iv (own_c p3), iv (own_c p4), rv b1, rv b6, .unset]) rfl ?_
    refine XS.iload X12.here hx rfl (hb hby at_89) rfl ?_
    refine XT.iconstV X12.here hx rfl (1 : Int32) (hb hby at_91) (by decide) ?_
    refine XS.icmpNo X12.here hx rfl (hb hby at_92) rfl (XT.ii_lt_f (by decide)) ?_
    refine XS.iload X12.here hx rfl (hb hby at_95) rfl ?_
    refine st13 _ ?_
    exact k)
  by_cases hc100_15 : (own_al (own_c p1)) = (0 : Int32)
  · have f16 := (A6.keep K12)
    have f17 := (own_stak f8 K12 (allS (own_exns A6) all0))
    have f18 := (own_stak ((((hF.ext E1).wr W3).wr W5).ext E6) K12 (allS (own_exns A6) all0))
    have f19 := (own_stak f9 K12 (allS (own_exns A6) all0))
    have f20 := (own_stak f10 K12 (allS (own_exns A6) all0))
    have f21 := (own_stak f11 K12 (allS (own_exns A6) all0))
    obtain ⟨_, T22, Lc22, X22, hQ22, st22⟩ := own_callS (W := 0) (y := mN6) X13 hx hZ hown (hw _ (own_w 23 rfl)) (hw _ (own_w 24 rfl)) (hw _ (own_w 25 rfl)) (hw _ (own_w 26 rfl)) (by decide) (rmNs_2 l Z av0 hw [] b6 wC fm (own_c p1) (own_c p2) T12.heap n0 Zk12 f16 St12 f17 hw0 hfm f18 f19 f20 f21 (own_cr p1) (own_cr p2)) (by decide) (by decide) (g := (mkF m 154 #[iv p0, iv p1, iv p2, iv p3, iv p4, iv 2, iv (own_c p1), iv (own_c p2), iv (own_c p3), iv (own_c p4), rv b1, rv b6, iv 0] [(.ref b6)])) rfl (by rw [hml]; rfl) (argsL := [(.ref b6)]) (rest := []) (lenOf pd__Ljava_lang_String_Z rfl) rfl (hb hby at_154) rfl e13 (by decide : 4 + 0 ≤ _) (by decide : 12 + 0 ≤ _)
    obtain ⟨rfl, N22q, hh22⟩ := hQ22
    have N22 := Fr.app N13 N22q
    have e22 : T22.heap = T12.heap := hh22
    have S23 : ∀ t, oS p e below T22 (mkF m 167 #[iv p0, iv p1, iv p2, iv p3, iv p4, iv 2, iv (own_c p1), iv (own_c p2), iv (own_c p3), iv (own_c p4), rv b1, rv b6, iv 0] [(.int 1)]) t → oS p e below s₁ (mkF m 0 #[iv p0, iv p1, iv p2, iv p3, iv p4, .unset, .unset, .unset, .unset, .unset, .unset, .unset, .unset] []) t := fun t k => S14 t (by
      show oS p e below T13 (mkF m 100 #[iv p0, iv p1, iv p2, iv p3, iv p4, iv 2, iv (own_c p1), iv (own_c p2), iv (own_c p3), iv (own_c p4), rv b1, rv b6, .unset] [(.int (own_al (own_c p1)))]) _
      refine XS.ifYes X13.here hx rfl (pc0 := 100) (pc' := 149) rfl (hb hby at_100) rfl (XT.i0_eq_t hc100_15) (by decide) (by decide) ?_
      refine XT.iconstV X13.here hx rfl (0 : Int32) (hb hby at_149) (by decide) ?_
      refine XS.istore X13.here hx rfl (hb hby at_150) rfl (l' := #[iv p0, iv p1, iv p2, iv p3, iv p4, iv 2, iv (own_c p1), iv (own_c p2), iv (own_c p3), iv (own_c p4), rv b1, rv b6, iv 0]) rfl ?_
      refine XS.aload X13.here hx rfl (hb hby at_152) rfl rfl ?_
      refine st22 _ ?_
      show oS p e below T22 (mkF m 157 #[iv p0, iv p1, iv p2, iv p3, iv p4, iv 2, iv (own_c p1), iv (own_c p2), iv (own_c p3), iv (own_c p4), rv b1, rv b6, iv 0] [(.int (own_ns [(own_c p1), (own_c p2)]))]) _
      refine XS.iload X22.here hx rfl (hb hby at_157) rfl ?_
      refine XS.icmpNo X22.here hx rfl (hb hby at_159) rfl (XT.ii_ne_f (by simp [own_step, own_end, hc100_15])) ?_
      refine XT.iconstV X22.here hx rfl (1 : Int32) (hb hby at_162) (by decide) ?_
      refine XS.goto X22.here hx rfl (pc0 := 163) (pc' := 167) rfl (hb hby at_163) (by decide) (by decide) ?_
      exact k)
    obtain ⟨fs, hr, hrun, hended, hW, hsame⟩ := X22.leave (v := some (.int 1)) (fun h => by rw [Bd.returns] at h; cases h)
    refine ⟨_, _, pre0 _ (S23 _ ?_), hrun, hended, _, _, rfl, ?_, ReturnedEndW.of_narrow ⟨_, rfl⟩ hW (hsame.mono (by decide) (by decide))⟩
    · exact retN X22 hx (t := .boolean) Bd.returns (by simp) (hb hby at_167) hr
    · show Qrm0 Z p0 p1 p2 p3 p4 wC fm h0 n0 _ T22.heap _
      rw [e22]
      exact ⟨rfl, N22⟩
  · obtain ⟨_, T24, Lc24, X24, hQ24, st24⟩ := own_callS (W := 0) (y := mN1) X13 hx hZ hown (hw _ (own_w 48 rfl)) (hw _ (own_w 49 rfl)) (hw _ (own_w 50 rfl)) (hw _ (own_w 51 rfl)) (by decide) (rmA l Z av0 hw [] (own_c p2) T12.heap n0 Zk12 ) (by decide) (by decide) (g := (mkF m 111 #[iv p0, iv p1, iv p2, iv p3, iv p4, iv 2, iv (own_c p1), iv (own_c p2), iv (own_c p3), iv (own_c p4), rv b1, rv b6, .unset] [(.int (own_c p2))])) rfl (by rw [hml]; rfl) (argsL := [(.int (own_c p2))]) (rest := []) (lenOf pd__C_Z rfl) rfl (hb hby at_111) rfl e13 (by decide : 4 + 0 ≤ _) (by decide : 12 + 0 ≤ _)
    obtain ⟨rfl, N24q, hh24⟩ := hQ24
    have N24 := Fr.app N13 N24q
    have e24 : T24.heap = T12.heap := hh24
    have S25 : ∀ t, oS p e below T24 (mkF m 114 #[iv p0, iv p1, iv p2, iv p3, iv p4, iv 2, iv (own_c p1), iv (own_c p2), iv (own_c p3), iv (own_c p4), rv b1, rv b6, .unset] [(.int (own_al (own_c p2)))]) t → oS p e below s₁ (mkF m 0 #[iv p0, iv p1, iv p2, iv p3, iv p4, .unset, .unset, .unset, .unset, .unset, .unset, .unset, .unset] []) t := fun t k => S14 t (by
      show oS p e below T13 (mkF m 100 #[iv p0, iv p1, iv p2, iv p3, iv p4, iv 2, iv (own_c p1), iv (own_c p2), iv (own_c p3), iv (own_c p4), rv b1, rv b6, .unset] [(.int (own_al (own_c p1)))]) _
      refine XS.ifNo X13.here hx rfl (hb hby at_100) rfl (XT.i0_eq_f hc100_15) ?_
      refine XS.iload X13.here hx rfl (hb hby at_103) rfl ?_
      refine XT.iconstV X13.here hx rfl (2 : Int32) (hb hby at_105) (by decide) ?_
      refine XS.icmpNo X13.here hx rfl (hb hby at_106) rfl (XT.ii_lt_f (by decide)) ?_
      refine XS.iload X13.here hx rfl (hb hby at_109) rfl ?_
      show oS p e below T13 (mkF m 111 #[iv p0, iv p1, iv p2, iv p3, iv p4, iv 2, iv (own_c p1), iv (own_c p2), iv (own_c p3), iv (own_c p4), rv b1, rv b6, .unset] [(.int (own_c p2))]) _
      refine st24 _ ?_
      exact k)
    by_cases hc114_26 : (own_al (own_c p2)) = (0 : Int32)
    · have f27 := (A6.keep K12)
      have f28 := (own_stak f8 K12 (allS (own_exns A6) all0))
      have f29 := (own_stak ((((hF.ext E1).wr W3).wr W5).ext E6) K12 (allS (own_exns A6) all0))
      have f30 := (own_stak f9 K12 (allS (own_exns A6) all0))
      have f31 := (own_stak f10 K12 (allS (own_exns A6) all0))
      have f32 := (own_stak f11 K12 (allS (own_exns A6) all0))
      obtain ⟨_, T33, Lc33, X33, hQ33, st33⟩ := own_callS (W := 0) (y := mN6) X24 hx hZ hown (hw _ (own_w 23 rfl)) (hw _ (own_w 24 rfl)) (hw _ (own_w 25 rfl)) (hw _ (own_w 26 rfl)) (by decide) (rmNs_2 l Z av0 hw [] b6 wC fm (own_c p1) (own_c p2) T12.heap n0 Zk12 f27 St12 f28 hw0 hfm f29 f30 f31 f32 (own_cr p1) (own_cr p2)) (by decide) (by decide) (g := (mkF m 154 #[iv p0, iv p1, iv p2, iv p3, iv p4, iv 2, iv (own_c p1), iv (own_c p2), iv (own_c p3), iv (own_c p4), rv b1, rv b6, iv 0] [(.ref b6)])) rfl (by rw [hml]; rfl) (argsL := [(.ref b6)]) (rest := []) (lenOf pd__Ljava_lang_String_Z rfl) rfl (hb hby at_154) rfl e24 (by decide : 4 + 0 ≤ _) (by decide : 12 + 0 ≤ _)
      obtain ⟨rfl, N33q, hh33⟩ := hQ33
      have N33 := Fr.app N24 N33q
      have e33 : T33.heap = T12.heap := hh33
      have S34 : ∀ t, oS p e below T33 (mkF m 167 #[iv p0, iv p1, iv p2, iv p3, iv p4, iv 2, iv (own_c p1), iv (own_c p2), iv (own_c p3), iv (own_c p4), rv b1, rv b6, iv 0] [(.int 1)]) t → oS p e below s₁ (mkF m 0 #[iv p0, iv p1, iv p2, iv p3, iv p4, .unset, .unset, .unset, .unset, .unset, .unset, .unset, .unset] []) t := fun t k => S25 t (by
        show oS p e below T24 (mkF m 114 #[iv p0, iv p1, iv p2, iv p3, iv p4, iv 2, iv (own_c p1), iv (own_c p2), iv (own_c p3), iv (own_c p4), rv b1, rv b6, .unset] [(.int (own_al (own_c p2)))]) _
        refine XS.ifYes X24.here hx rfl (pc0 := 114) (pc' := 149) rfl (hb hby at_114) rfl (XT.i0_eq_t hc114_26) (by decide) (by decide) ?_
        refine XT.iconstV X24.here hx rfl (0 : Int32) (hb hby at_149) (by decide) ?_
        refine XS.istore X24.here hx rfl (hb hby at_150) rfl (l' := #[iv p0, iv p1, iv p2, iv p3, iv p4, iv 2, iv (own_c p1), iv (own_c p2), iv (own_c p3), iv (own_c p4), rv b1, rv b6, iv 0]) rfl ?_
        refine XS.aload X24.here hx rfl (hb hby at_152) rfl rfl ?_
        refine st33 _ ?_
        refine XS.iload X33.here hx rfl (hb hby at_157) rfl ?_
        refine XS.icmpNo X33.here hx rfl (hb hby at_159) rfl (XT.ii_ne_f (by simp [own_step, own_end, hc100_15, hc114_26])) ?_
        refine XT.iconstV X33.here hx rfl (1 : Int32) (hb hby at_162) (by decide) ?_
        refine XS.goto X33.here hx rfl (pc0 := 163) (pc' := 167) rfl (hb hby at_163) (by decide) (by decide) ?_
        exact k)
      obtain ⟨fs, hr, hrun, hended, hW, hsame⟩ := X33.leave (v := some (.int 1)) (fun h => by rw [Bd.returns] at h; cases h)
      refine ⟨_, _, pre0 _ (S34 _ ?_), hrun, hended, _, _, rfl, ?_, ReturnedEndW.of_narrow ⟨_, rfl⟩ hW (hsame.mono (by decide) (by decide))⟩
      · exact retN X33 hx (t := .boolean) Bd.returns (by simp) (hb hby at_167) hr
      · show Qrm0 Z p0 p1 p2 p3 p4 wC fm h0 n0 _ T33.heap _
        rw [e33]
        exact ⟨rfl, N33⟩
    · have f35 := (A6.keep K12)
      have f36 := (own_stak f8 K12 (allS (own_exns A6) all0))
      have f37 := (own_stak ((((hF.ext E1).wr W3).wr W5).ext E6) K12 (allS (own_exns A6) all0))
      have f38 := (own_stak f9 K12 (allS (own_exns A6) all0))
      have f39 := (own_stak f10 K12 (allS (own_exns A6) all0))
      have f40 := (own_stak f11 K12 (allS (own_exns A6) all0))
      obtain ⟨_, T41, Lc41, X41, hQ41, st41⟩ := own_callS (W := 0) (y := mN6) X24 hx hZ hown (hw _ (own_w 23 rfl)) (hw _ (own_w 24 rfl)) (hw _ (own_w 25 rfl)) (hw _ (own_w 26 rfl)) (by decide) (rmNs_2 l Z av0 hw [] b6 wC fm (own_c p1) (own_c p2) T12.heap n0 Zk12 f35 St12 f36 hw0 hfm f37 f38 f39 f40 (own_cr p1) (own_cr p2)) (by decide) (by decide) (g := (mkF m 154 #[iv p0, iv p1, iv p2, iv p3, iv p4, iv 2, iv (own_c p1), iv (own_c p2), iv (own_c p3), iv (own_c p4), rv b1, rv b6, iv 1] [(.ref b6)])) rfl (by rw [hml]; rfl) (argsL := [(.ref b6)]) (rest := []) (lenOf pd__Ljava_lang_String_Z rfl) rfl (hb hby at_154) rfl e24 (by decide : 4 + 0 ≤ _) (by decide : 12 + 0 ≤ _)
      obtain ⟨rfl, N41q, hh41⟩ := hQ41
      have N41 := Fr.app N24 N41q
      have e41 : T41.heap = T12.heap := hh41
      have S42 : ∀ t, oS p e below T41 (mkF m 167 #[iv p0, iv p1, iv p2, iv p3, iv p4, iv 2, iv (own_c p1), iv (own_c p2), iv (own_c p3), iv (own_c p4), rv b1, rv b6, iv 1] [(.int 1)]) t → oS p e below s₁ (mkF m 0 #[iv p0, iv p1, iv p2, iv p3, iv p4, .unset, .unset, .unset, .unset, .unset, .unset, .unset, .unset] []) t := fun t k => S25 t (by
        show oS p e below T24 (mkF m 114 #[iv p0, iv p1, iv p2, iv p3, iv p4, iv 2, iv (own_c p1), iv (own_c p2), iv (own_c p3), iv (own_c p4), rv b1, rv b6, .unset] [(.int (own_al (own_c p2)))]) _
        refine XS.ifNo X24.here hx rfl (hb hby at_114) rfl (XT.i0_eq_f hc114_26) ?_
        refine XS.iload X24.here hx rfl (hb hby at_117) rfl ?_
        refine XT.iconstV X24.here hx rfl (3 : Int32) (hb hby at_119) (by decide) ?_
        refine XS.icmpYes X24.here hx rfl (pc0 := 120) (pc' := 131) rfl (hb hby at_120) rfl (XT.ii_lt_t (by decide)) (by decide) (by decide) ?_
        refine XS.iload X24.here hx rfl (hb hby at_131) rfl ?_
        refine XT.iconstV X24.here hx rfl (4 : Int32) (hb hby at_133) (by decide) ?_
        refine XS.icmpYes X24.here hx rfl (pc0 := 134) (pc' := 145) rfl (hb hby at_134) rfl (XT.ii_lt_t (by decide)) (by decide) (by decide) ?_
        refine XT.iconstV X24.here hx rfl (1 : Int32) (hb hby at_145) (by decide) ?_
        refine XS.goto X24.here hx rfl (pc0 := 146) (pc' := 150) rfl (hb hby at_146) (by decide) (by decide) ?_
        refine XS.istore X24.here hx rfl (hb hby at_150) rfl (l' := #[iv p0, iv p1, iv p2, iv p3, iv p4, iv 2, iv (own_c p1), iv (own_c p2), iv (own_c p3), iv (own_c p4), rv b1, rv b6, iv 1]) rfl ?_
        refine XS.aload X24.here hx rfl (hb hby at_152) rfl rfl ?_
        refine st41 _ ?_
        refine XS.iload X41.here hx rfl (hb hby at_157) rfl ?_
        refine XS.icmpNo X41.here hx rfl (hb hby at_159) rfl (XT.ii_ne_f (by simp [own_step, own_end, hc100_15, hc114_26])) ?_
        refine XT.iconstV X41.here hx rfl (1 : Int32) (hb hby at_162) (by decide) ?_
        refine XS.goto X41.here hx rfl (pc0 := 163) (pc' := 167) rfl (hb hby at_163) (by decide) (by decide) ?_
        exact k)
      obtain ⟨fs, hr, hrun, hended, hW, hsame⟩ := X41.leave (v := some (.int 1)) (fun h => by rw [Bd.returns] at h; cases h)
      refine ⟨_, _, pre0 _ (S42 _ ?_), hrun, hended, _, _, rfl, ?_, ReturnedEndW.of_narrow ⟨_, rfl⟩ hW (hsame.mono (by decide) (by decide))⟩
      · exact retN X41 hx (t := .boolean) Bd.returns (by simp) (hb hby at_167) hr
      · show Qrm0 Z p0 p1 p2 p3 p4 wC fm h0 n0 _ T41.heap _
        rw [e41]
        exact ⟨rfl, N41⟩
def own_St3 (Z : State) (h : Heap) (a : Addr) (c0 : Int32) (c1 : Int32) (c2 : Int32) : Prop := (∃ (b : Addr) (k : ClassId), Fld Z h a "java/lang/String" "value" "[B" (.ref b) ∧ Fld Z h a "java/lang/String" "coder" "B" (.int (0 : Int32)) ∧ Arv Z h b k .byte (3 : Int32) [(.int (own_b c0)), (.int (own_b c1)), (.int (own_b c2))] (.int (0 : Int32)) ∧ ¬ (255 : Int32) < c0 ∧ ¬ (255 : Int32) < c1 ∧ ¬ (255 : Int32) < c2) ∨ (∃ (b : Addr) (k : ClassId), Fld Z h a "java/lang/String" "value" "[B" (.ref b) ∧ Fld Z h a "java/lang/String" "coder" "B" (.int (1 : Int32)) ∧ Arv Z h b k .byte (6 : Int32) [(.int (own_lo c0)), (.int (own_hi c0)), (.int (own_lo c1)), (.int (own_hi c1)), (.int (own_lo c2)), (.int (own_hi c2))] (.int (0 : Int32)))
theorem own_St3_ext {Z : State} {h h' : Heap} {a o : Addr} {c0 : Int32} {c1 : Int32} {c2 : Int32} (S : own_St3 Z h a c0 c1 c2) (E : Ext h h') : own_St3 Z h' a c0 c1 c2 := by
  rcases S with ⟨b, k, f, g, A, r0, r1, r2⟩ | ⟨b, k, f, g, A⟩
  · exact Or.inl ⟨b, k, f.ext E, g.ext E, A.ext E, r0, r1, r2⟩
  · exact Or.inr ⟨b, k, f.ext E, g.ext E, A.ext E⟩
theorem own_St3_wr {Z : State} {h h' : Heap} {a o : Addr} {c0 : Int32} {c1 : Int32} {c2 : Int32} (S : own_St3 Z h a c0 c1 c2) {sl : Nat} {v : Value} (W : Wr h h' o sl v) (hn : a ≠ o) (hb : ∀ {b k z vs d}, Arv Z h b k .byte z vs d → b ≠ o) : own_St3 Z h' a c0 c1 c2 := by
  rcases S with ⟨b, k, f, g, A, r0, r1, r2⟩ | ⟨b, k, f, g, A⟩
  · exact Or.inl ⟨b, k, f.other W (Or.inl hn), g.other W (Or.inl hn), A.other W (hb A), r0, r1, r2⟩
  · exact Or.inr ⟨b, k, f.other W (Or.inl hn), g.other W (Or.inl hn), A.other W (hb A)⟩
theorem own_St3_k0 {Z : State} {h h' : Heap} {a o : Addr} {c0 : Int32} {c1 : Int32} {c2 : Int32} (S : own_St3 Z h a c0 c1 c2) (K : Keep h h' []) : own_St3 Z h' a c0 c1 c2 := by
  rcases S with ⟨b, k, f, g, A, r0, r1, r2⟩ | ⟨b, k, f, g, A⟩
  · exact Or.inl ⟨b, k, f.keep K nin0, g.keep K nin0, A.keep K nin0, r0, r1, r2⟩
  · exact Or.inr ⟨b, k, f.keep K nin0, g.keep K nin0, A.keep K nin0⟩
theorem own_St3_k1 {Z : State} {h h' : Heap} {a o : Addr} {c0 : Int32} {c1 : Int32} {c2 : Int32} (S : own_St3 Z h a c0 c1 c2) (K : Keep h h' [o]) (hn : a ≠ o) (hb : ∀ {b k z vs d}, Arv Z h b k .byte z vs d → b ≠ o) : own_St3 Z h' a c0 c1 c2 := by
  rcases S with ⟨b, k, f, g, A, r0, r1, r2⟩ | ⟨b, k, f, g, A⟩
  · exact Or.inl ⟨b, k, f.keep K (ninS hn nin0), g.keep K (ninS hn nin0), A.keep K (ninS (hb A) nin0), r0, r1, r2⟩
  · exact Or.inr ⟨b, k, f.keep K (ninS hn nin0), g.keep K (ninS hn nin0), A.keep K (ninS (hb A) nin0)⟩
def QrmLen_3_0 (Z : State) (a0 : Addr) (ab : Addr) (kb : ClassId) (wC : Int32) (c0 : Int32) (c1 : Int32) (c2 : Int32) (h0 : Heap) (n0 : Nat) (v : Option Value) (h : Heap) (L : List Loc) : Prop := v = some (.int (3 : Int32)) ∧ Fr n0 L ∧ h = h0
set_option maxRecDepth 65536 in
set_option maxHeartbeats 40000000 in
theorem rmLen_3_0 (l : Launch) (Z : State) (av0 : Array Value) (hw : ∀ d ∈ tables_1, d.before av0 Z = true) (ws : List Jvm.Cond) (a0 : Addr) (ab : Addr) (kb : ClassId) (wC : Int32) (c0 : Int32) (c1 : Int32) (c2 : Int32) (h0 : Heap) (n0 : Nat) (Z0 : n0 ≤ h0.size) (hE : Exa Z h0 a0 "java/lang/String") (hV : Fld Z h0 a0 "java/lang/String" "value" "[B" (.ref ab)) (hC : Fld Z h0 a0 "java/lang/String" "coder" "B" (.int (0 : Int32))) (hB : Arv Z h0 ab kb .byte (3 : Int32) [(.int (own_b c0)), (.int (own_b c1)), (.int (own_b c2))] (.int (0 : Int32))) (hS : Sta Z h0 "java/lang/String" "COMPACT_STRINGS" "Z" (.int wC)) (hw0 : ¬ wC = (0 : Int32)) :
    own_Met l mN5 jdk_42_method_54_code 1 (some .int) ws ({ frames := 1, cells := 0, slots := 0, locals := 13 } : Room) #[(.ref a0)] Z h0 (QrmLen_3_0 Z a0 ab kb wC c0 c1 c2 h0 n0) := by
  refine MetFree.of_bodySF (plainFor_of_name pn_String) hisR ?_
  intro p e s m args below meth c s₁ Bd hml0 hP hK
  obtain ⟨rfl, hZ, hh⟩ := hP
  have hml : c.maxLocals = 1 := hml0
  obtain ⟨hx, hby, hown, hnm, X0, e0⟩ := own_start Bd hml0 hh
  have N0 := Fr.nil n0
  have pre0 : ∀ t, oS p e below s₁ (mkF m 0 #[rv a0] []) t → Steps p.tables e below (s₁.setTop (entryFrame m #[(.ref a0)] 1)) t := fun t k => castTop (by first | (simp [entryFrame, mkF, argsToLocals, Value.category]; done) | rfl) k
  obtain ⟨T1, X1, e1, st1⟩ := getF X0 hx hZ hown (host := "") (Or.inl (hw _ (own_w 21 rfl))) Via.refl e0 hV (g := (mkF m 1 #[rv a0] [(.ref a0)])) rfl rfl (hb hby d5_1)
  obtain ⟨cl2, Ar2, qk2, Sz2, Ng2, Hs2, Gs2⟩ := id hB
  obtain ⟨_, T3, Lc3, X3, hQ3, st3⟩ := own_virtual (W := 1) (y := mN4) (z := mN4) X1 hx hZ hown (hw _ (own_w 32 rfl)) (hw _ (own_w 33 rfl)) (notFace_of_selects (args := #[]) (mvT hZ (hw _ (own_w 35 rfl)))) (hw _ (own_w 35 rfl)) (hw _ (own_w 34 rfl)) (hw _ (own_w 36 rfl)) (hw _ (own_w 4 rfl)) (by decide) (rmCoder_0 l Z av0 hw [] a0 wC h0 n0 Z0 hS hw0 hC) (by decide) (by decide) hE (g := (mkF m 6 #[rv a0] [(.ref a0), (.int 3)])) rfl (by rw [hml]; rfl) (argsL := []) (rest := [(.int 3)]) (lenOf pd__B rfl) rfl (hb hby d5_6) rfl e1 (by decide : 0 + 0 ≤ _) (by decide : 0 + 0 ≤ _)
  obtain ⟨rfl, N3q, hh3⟩ := hQ3
  have N3 := Fr.app N0 N3q
  have e3 : T3.heap = h0 := hh3
  have S4 : ∀ t, oS p e below T3 (mkF m 10 #[rv a0] [(.int 3)]) t → oS p e below s₁ (mkF m 0 #[rv a0] []) t := fun t k => id (by
    show oS p e below s₁ (mkF m 0 #[rv a0] []) _
    refine XS.aloadN X0.here hx rfl (hb hby d5_0) rfl rfl ?_
    refine st1 _ ?_
    refine X1.arraylength hx (by rw [e1]; exact Ar2.1) (State.isArrayOf_alike hZ.alike Ar2.2.1) (g := (mkF m 4 #[rv a0] [(.ref ab)])) rfl rfl (hb hby d5_4) _ ?_
    rw [len_of Sz2 Ng2]
    refine XS.aloadN X1.here hx rfl (hb hby d5_5) rfl rfl ?_
    refine st3 _ ?_
    refine XT.ishr X3.here hx rfl (hb hby d5_9) rfl ?_
    exact k)
  obtain ⟨fs, hr, hrun, hended, hW, hsame⟩ := X3.leave (v := some (.int 3)) (fun h => by rw [Bd.returns] at h; cases h)
  refine ⟨_, _, pre0 _ (S4 _ ?_), hrun, hended, _, _, rfl, ?_, ⟨_, rfl⟩, hW, hsame.mono (by decide) (by decide)⟩
  · exact retI X3 hx Bd.returns (hb hby d5_10) hr
  · show QrmLen_3_0 Z a0 ab kb wC c0 c1 c2 h0 n0 _ T3.heap _
    rw [e3]
    exact ⟨congrArg (fun z => some (Value.int z)) (by decide), N3, rfl⟩
def QrmLen_3_1 (Z : State) (a0 : Addr) (ab : Addr) (kb : ClassId) (wC : Int32) (c0 : Int32) (c1 : Int32) (c2 : Int32) (h0 : Heap) (n0 : Nat) (v : Option Value) (h : Heap) (L : List Loc) : Prop := v = some (.int (3 : Int32)) ∧ Fr n0 L ∧ h = h0
set_option maxRecDepth 65536 in
set_option maxHeartbeats 40000000 in
theorem rmLen_3_1 (l : Launch) (Z : State) (av0 : Array Value) (hw : ∀ d ∈ tables_1, d.before av0 Z = true) (ws : List Jvm.Cond) (a0 : Addr) (ab : Addr) (kb : ClassId) (wC : Int32) (c0 : Int32) (c1 : Int32) (c2 : Int32) (h0 : Heap) (n0 : Nat) (Z0 : n0 ≤ h0.size) (hE : Exa Z h0 a0 "java/lang/String") (hV : Fld Z h0 a0 "java/lang/String" "value" "[B" (.ref ab)) (hC : Fld Z h0 a0 "java/lang/String" "coder" "B" (.int (1 : Int32))) (hB : Arv Z h0 ab kb .byte (6 : Int32) [(.int (own_lo c0)), (.int (own_hi c0)), (.int (own_lo c1)), (.int (own_hi c1)), (.int (own_lo c2)), (.int (own_hi c2))] (.int (0 : Int32))) (hS : Sta Z h0 "java/lang/String" "COMPACT_STRINGS" "Z" (.int wC)) (hw0 : ¬ wC = (0 : Int32)) :
    own_Met l mN5 jdk_42_method_54_code 1 (some .int) ws ({ frames := 1, cells := 0, slots := 0, locals := 13 } : Room) #[(.ref a0)] Z h0 (QrmLen_3_1 Z a0 ab kb wC c0 c1 c2 h0 n0) := by
  refine MetFree.of_bodySF (plainFor_of_name pn_String) hisR ?_
  intro p e s m args below meth c s₁ Bd hml0 hP hK
  obtain ⟨rfl, hZ, hh⟩ := hP
  have hml : c.maxLocals = 1 := hml0
  obtain ⟨hx, hby, hown, hnm, X0, e0⟩ := own_start Bd hml0 hh
  have N0 := Fr.nil n0
  have pre0 : ∀ t, oS p e below s₁ (mkF m 0 #[rv a0] []) t → Steps p.tables e below (s₁.setTop (entryFrame m #[(.ref a0)] 1)) t := fun t k => castTop (by first | (simp [entryFrame, mkF, argsToLocals, Value.category]; done) | rfl) k
  obtain ⟨T1, X1, e1, st1⟩ := getF X0 hx hZ hown (host := "") (Or.inl (hw _ (own_w 21 rfl))) Via.refl e0 hV (g := (mkF m 1 #[rv a0] [(.ref a0)])) rfl rfl (hb hby d5_1)
  obtain ⟨cl2, Ar2, qk2, Sz2, Ng2, Hs2, Gs2⟩ := id hB
  obtain ⟨_, T3, Lc3, X3, hQ3, st3⟩ := own_virtual (W := 1) (y := mN4) (z := mN4) X1 hx hZ hown (hw _ (own_w 32 rfl)) (hw _ (own_w 33 rfl)) (notFace_of_selects (args := #[]) (mvT hZ (hw _ (own_w 35 rfl)))) (hw _ (own_w 35 rfl)) (hw _ (own_w 34 rfl)) (hw _ (own_w 36 rfl)) (hw _ (own_w 4 rfl)) (by decide) (rmCoder_1 l Z av0 hw [] a0 wC h0 n0 Z0 hS hw0 hC) (by decide) (by decide) hE (g := (mkF m 6 #[rv a0] [(.ref a0), (.int 6)])) rfl (by rw [hml]; rfl) (argsL := []) (rest := [(.int 6)]) (lenOf pd__B rfl) rfl (hb hby d5_6) rfl e1 (by decide : 0 + 0 ≤ _) (by decide : 0 + 0 ≤ _)
  obtain ⟨rfl, N3q, hh3⟩ := hQ3
  have N3 := Fr.app N0 N3q
  have e3 : T3.heap = h0 := hh3
  have S4 : ∀ t, oS p e below T3 (mkF m 10 #[rv a0] [(.int 3)]) t → oS p e below s₁ (mkF m 0 #[rv a0] []) t := fun t k => id (by
    show oS p e below s₁ (mkF m 0 #[rv a0] []) _
    refine XS.aloadN X0.here hx rfl (hb hby d5_0) rfl rfl ?_
    refine st1 _ ?_
    refine X1.arraylength hx (by rw [e1]; exact Ar2.1) (State.isArrayOf_alike hZ.alike Ar2.2.1) (g := (mkF m 4 #[rv a0] [(.ref ab)])) rfl rfl (hb hby d5_4) _ ?_
    rw [len_of Sz2 Ng2]
    refine XS.aloadN X1.here hx rfl (hb hby d5_5) rfl rfl ?_
    refine st3 _ ?_
    refine XT.ishr X3.here hx rfl (hb hby d5_9) rfl ?_
    exact k)
  obtain ⟨fs, hr, hrun, hended, hW, hsame⟩ := X3.leave (v := some (.int 3)) (fun h => by rw [Bd.returns] at h; cases h)
  refine ⟨_, _, pre0 _ (S4 _ ?_), hrun, hended, _, _, rfl, ?_, ⟨_, rfl⟩, hW, hsame.mono (by decide) (by decide)⟩
  · exact retI X3 hx Bd.returns (hb hby d5_10) hr
  · show QrmLen_3_1 Z a0 ab kb wC c0 c1 c2 h0 n0 _ T3.heap _
    rw [e3]
    exact ⟨congrArg (fun z => some (Value.int z)) (by decide), N3, rfl⟩
theorem rmLenJ_3 (l : Launch) (Z : State) (av0 : Array Value) (hw : ∀ d ∈ tables_1, d.before av0 Z = true) (ws : List Jvm.Cond) (a0 : Addr) (wC : Int32) (fm : Value) (c0 : Int32) (c1 : Int32) (c2 : Int32) (h0 : Heap) (n0 : Nat) (Z0 : n0 ≤ h0.size) (hE : Exa Z h0 a0 "java/lang/String") (hSt : own_St3 Z h0 a0 c0 c1 c2) (hS : Sta Z h0 "java/lang/String" "COMPACT_STRINGS" "Z" (.int wC)) (hw0 : ¬ wC = (0 : Int32))  :
    own_Met l mN5 jdk_42_method_54_code 1 (some .int) ws ({ frames := 1, cells := 0, slots := 0, locals := 13 } : Room) #[(.ref a0)] Z h0 (fun v h L => v = some (.int (3 : Int32)) ∧ Fr n0 L ∧ h = h0) := by
  rcases hSt with ⟨ab, kb, hV, hC, hB, lt0, lt1, lt2⟩ | ⟨ab, kb, hV, hC, hB⟩
  · exact rmLen_3_0 l Z av0 hw ws a0 ab kb wC c0 c1 c2 h0 n0 Z0 hE hV hC hB hS hw0
  · exact rmLen_3_1 l Z av0 hw ws a0 ab kb wC c0 c1 c2 h0 n0 Z0 hE hV hC hB hS hw0
theorem rmChJ_3_0 (l : Launch) (Z : State) (av0 : Array Value) (hw : ∀ d ∈ tables_1, d.before av0 Z = true) (ws : List Jvm.Cond) (a0 : Addr) (wC : Int32) (fm : Value) (c0 : Int32) (c1 : Int32) (c2 : Int32) (h0 : Heap) (n0 : Nat) (Z0 : n0 ≤ h0.size) (hE : Exa Z h0 a0 "java/lang/String") (hSt : own_St3 Z h0 a0 c0 c1 c2) (hS : Sta Z h0 "java/lang/String" "COMPACT_STRINGS" "Z" (.int wC)) (hw0 : ¬ wC = (0 : Int32)) (hfm : fm.isRef = true) (hF : Sta Z h0 "jdk/internal/util/Preconditions" "SIOOBE_FORMATTER" "Ljava/util/function/BiFunction;" fm) (sA : Sta Z h0 "java/lang/StringUTF16" "$assertionsDisabled" "Z" (.int (1 : Int32))) (sH : Sta Z h0 "java/lang/StringUTF16" "HI_BYTE_SHIFT" "I" (.int (0 : Int32))) (sL : Sta Z h0 "java/lang/StringUTF16" "LO_BYTE_SHIFT" "I" (.int (8 : Int32))) (hg : 0 ≤ c0.toInt ∧ c0.toInt < 65536) :
    own_Met l mN14 jdk_42_method_56_code 2 (some .char) ws ({ frames := 4, cells := 0, slots := 0, locals := 53 } : Room) #[(.ref a0), (.int (0 : Int32))] Z h0 (fun v h L => v = some (.int c0) ∧ Fr n0 L ∧ h = h0) := by
  rcases hSt with ⟨ab, kb, hV, hC, hB, lt0, lt1, lt2⟩ | ⟨ab, kb, hV, hC, hB⟩
  · exact rmCh0 l Z av0 hw ws a0 ab kb wC (3 : Int32) [(.int (own_b c0)), (.int (own_b c1)), (.int (own_b c2))] (0 : Int32) fm c0 h0 n0 Z0 hE hV hC hB hS hw0 hfm hF (by decide) (by decide) rfl ⟨hg.1, lt0⟩
  · exact rmCh1 l Z av0 hw ws a0 ab kb wC (6 : Int32) [(.int (own_lo c0)), (.int (own_hi c0)), (.int (own_lo c1)), (.int (own_hi c1)), (.int (own_lo c2)), (.int (own_hi c2))] (0 : Int32) fm c0 h0 n0 Z0 hE hV hC hB hS hw0 hfm hF sA sH sL (by decide) (by decide) (by decide) (by decide) rfl rfl hg
theorem rmChJ_3_1 (l : Launch) (Z : State) (av0 : Array Value) (hw : ∀ d ∈ tables_1, d.before av0 Z = true) (ws : List Jvm.Cond) (a0 : Addr) (wC : Int32) (fm : Value) (c0 : Int32) (c1 : Int32) (c2 : Int32) (h0 : Heap) (n0 : Nat) (Z0 : n0 ≤ h0.size) (hE : Exa Z h0 a0 "java/lang/String") (hSt : own_St3 Z h0 a0 c0 c1 c2) (hS : Sta Z h0 "java/lang/String" "COMPACT_STRINGS" "Z" (.int wC)) (hw0 : ¬ wC = (0 : Int32)) (hfm : fm.isRef = true) (hF : Sta Z h0 "jdk/internal/util/Preconditions" "SIOOBE_FORMATTER" "Ljava/util/function/BiFunction;" fm) (sA : Sta Z h0 "java/lang/StringUTF16" "$assertionsDisabled" "Z" (.int (1 : Int32))) (sH : Sta Z h0 "java/lang/StringUTF16" "HI_BYTE_SHIFT" "I" (.int (0 : Int32))) (sL : Sta Z h0 "java/lang/StringUTF16" "LO_BYTE_SHIFT" "I" (.int (8 : Int32))) (hg : 0 ≤ c1.toInt ∧ c1.toInt < 65536) :
    own_Met l mN14 jdk_42_method_56_code 2 (some .char) ws ({ frames := 4, cells := 0, slots := 0, locals := 53 } : Room) #[(.ref a0), (.int (1 : Int32))] Z h0 (fun v h L => v = some (.int c1) ∧ Fr n0 L ∧ h = h0) := by
  rcases hSt with ⟨ab, kb, hV, hC, hB, lt0, lt1, lt2⟩ | ⟨ab, kb, hV, hC, hB⟩
  · exact rmCh0 l Z av0 hw ws a0 ab kb wC (3 : Int32) [(.int (own_b c0)), (.int (own_b c1)), (.int (own_b c2))] (1 : Int32) fm c1 h0 n0 Z0 hE hV hC hB hS hw0 hfm hF (by decide) (by decide) rfl ⟨hg.1, lt1⟩
  · exact rmCh1 l Z av0 hw ws a0 ab kb wC (6 : Int32) [(.int (own_lo c0)), (.int (own_hi c0)), (.int (own_lo c1)), (.int (own_hi c1)), (.int (own_lo c2)), (.int (own_hi c2))] (1 : Int32) fm c1 h0 n0 Z0 hE hV hC hB hS hw0 hfm hF sA sH sL (by decide) (by decide) (by decide) (by decide) rfl rfl hg
theorem rmChJ_3_2 (l : Launch) (Z : State) (av0 : Array Value) (hw : ∀ d ∈ tables_1, d.before av0 Z = true) (ws : List Jvm.Cond) (a0 : Addr) (wC : Int32) (fm : Value) (c0 : Int32) (c1 : Int32) (c2 : Int32) (h0 : Heap) (n0 : Nat) (Z0 : n0 ≤ h0.size) (hE : Exa Z h0 a0 "java/lang/String") (hSt : own_St3 Z h0 a0 c0 c1 c2) (hS : Sta Z h0 "java/lang/String" "COMPACT_STRINGS" "Z" (.int wC)) (hw0 : ¬ wC = (0 : Int32)) (hfm : fm.isRef = true) (hF : Sta Z h0 "jdk/internal/util/Preconditions" "SIOOBE_FORMATTER" "Ljava/util/function/BiFunction;" fm) (sA : Sta Z h0 "java/lang/StringUTF16" "$assertionsDisabled" "Z" (.int (1 : Int32))) (sH : Sta Z h0 "java/lang/StringUTF16" "HI_BYTE_SHIFT" "I" (.int (0 : Int32))) (sL : Sta Z h0 "java/lang/StringUTF16" "LO_BYTE_SHIFT" "I" (.int (8 : Int32))) (hg : 0 ≤ c2.toInt ∧ c2.toInt < 65536) :
    own_Met l mN14 jdk_42_method_56_code 2 (some .char) ws ({ frames := 4, cells := 0, slots := 0, locals := 53 } : Room) #[(.ref a0), (.int (2 : Int32))] Z h0 (fun v h L => v = some (.int c2) ∧ Fr n0 L ∧ h = h0) := by
  rcases hSt with ⟨ab, kb, hV, hC, hB, lt0, lt1, lt2⟩ | ⟨ab, kb, hV, hC, hB⟩
  · exact rmCh0 l Z av0 hw ws a0 ab kb wC (3 : Int32) [(.int (own_b c0)), (.int (own_b c1)), (.int (own_b c2))] (2 : Int32) fm c2 h0 n0 Z0 hE hV hC hB hS hw0 hfm hF (by decide) (by decide) rfl ⟨hg.1, lt2⟩
  · exact rmCh1 l Z av0 hw ws a0 ab kb wC (6 : Int32) [(.int (own_lo c0)), (.int (own_hi c0)), (.int (own_lo c1)), (.int (own_hi c1)), (.int (own_lo c2)), (.int (own_hi c2))] (2 : Int32) fm c2 h0 n0 Z0 hE hV hC hB hS hw0 hfm hF sA sH sL (by decide) (by decide) (by decide) (by decide) rfl rfl hg
def QrmNs_3 (Z : State) (a0 : Addr) (wC : Int32) (fm : Value) (c0 : Int32) (c1 : Int32) (c2 : Int32) (h0 : Heap) (n0 : Nat) (v : Option Value) (h : Heap) (L : List Loc) : Prop := v = some (.int (own_ns [c0, c1, c2])) ∧ Fr n0 L ∧ h = h0
set_option maxRecDepth 65536 in
set_option maxHeartbeats 40000000 in
theorem rmNs_3 (l : Launch) (Z : State) (av0 : Array Value) (hw : ∀ d ∈ tables_1, d.before av0 Z = true) (ws : List Jvm.Cond) (a0 : Addr) (wC : Int32) (fm : Value) (c0 : Int32) (c1 : Int32) (c2 : Int32) (h0 : Heap) (n0 : Nat) (Z0 : n0 ≤ h0.size) (hE : Exa Z h0 a0 "java/lang/String") (hSt : own_St3 Z h0 a0 c0 c1 c2) (hS : Sta Z h0 "java/lang/String" "COMPACT_STRINGS" "Z" (.int wC)) (hw0 : ¬ wC = (0 : Int32)) (hfm : fm.isRef = true) (hF : Sta Z h0 "jdk/internal/util/Preconditions" "SIOOBE_FORMATTER" "Ljava/util/function/BiFunction;" fm) (sA : Sta Z h0 "java/lang/StringUTF16" "$assertionsDisabled" "Z" (.int (1 : Int32))) (sH : Sta Z h0 "java/lang/StringUTF16" "HI_BYTE_SHIFT" "I" (.int (0 : Int32))) (sL : Sta Z h0 "java/lang/StringUTF16" "LO_BYTE_SHIFT" "I" (.int (8 : Int32))) (hg0 : 0 ≤ c0.toInt ∧ c0.toInt < 65536) (hg1 : 0 ≤ c1.toInt ∧ c1.toInt < 65536) (hg2 : 0 ≤ c2.toInt ∧ c2.toInt < 65536) :
    own_Met l mN6 prog_60_method_4_code 4 (some .boolean) ws ({ frames := 5, cells := 0, slots := 0, locals := 66 } : Room) #[(.ref a0)] Z h0 (QrmNs_3 Z a0 wC fm c0 c1 c2 h0 n0) := by
  refine MetFree.of_bodySF (plainFor_of_name pn_XsNames) hisR ?_
  intro p e s m args below meth c s₁ Bd hml0 hP hK
  obtain ⟨rfl, hZ, hh⟩ := hP
  have hml : c.maxLocals = 4 := hml0
  obtain ⟨hx, hby, hown, hnm, X0, e0⟩ := own_start Bd hml0 hh
  have N0 := Fr.nil n0
  have pre0 : ∀ t, oS p e below s₁ (mkF m 0 #[rv a0, .unset, .unset, .unset] []) t → Steps p.tables e below (s₁.setTop (entryFrame m #[(.ref a0)] 4)) t := fun t k => castTop (by first | (simp [entryFrame, mkF, argsToLocals, Value.category]; done) | rfl) k
  obtain ⟨_, T1, Lc1, X1, hQ1, st1⟩ := own_virtual (W := 1) (y := mN5) (z := mN5) X0 hx hZ hown (hw _ (own_w 27 rfl)) (hw _ (own_w 28 rfl)) (notFace_of_selects (args := #[]) (mvT hZ (hw _ (own_w 30 rfl)))) (hw _ (own_w 30 rfl)) (hw _ (own_w 29 rfl)) (hw _ (own_w 31 rfl)) (hw _ (own_w 4 rfl)) (by decide) (rmLenJ_3 l Z av0 hw [] a0 wC fm c0 c1 c2 h0 n0 Z0 hE hSt hS hw0) (by decide) (by decide) hE (g := (mkF m 6 #[rv a0, iv 1, iv 0, .unset] [(.ref a0), (.int 0)])) rfl (by rw [hml]; rfl) (argsL := []) (rest := [(.int 0)]) (lenOf pd__I rfl) rfl (hb hby d4_6) rfl e0 (by decide : 0 + 0 ≤ _) (by decide : 0 + 0 ≤ _)
  obtain ⟨rfl, N1q, hh1⟩ := hQ1
  have N1 := Fr.app N0 N1q
  have e1 : T1.heap = h0 := hh1
  obtain ⟨_, T2, Lc2, X2, hQ2, st2⟩ := own_virtual (W := 0) (y := mN14) (z := mN14) X1 hx hZ hown (hw _ (own_w 52 rfl)) (hw _ (own_w 53 rfl)) (notFace_of_selects (args := #[]) (mvT hZ (hw _ (own_w 55 rfl)))) (hw _ (own_w 55 rfl)) (hw _ (own_w 54 rfl)) (hw _ (own_w 56 rfl)) (hw _ (own_w 4 rfl)) (by decide) (rmChJ_3_0 l Z av0 hw [] a0 wC fm c0 c1 c2 h0 n0 Z0 hE hSt hS hw0 hfm hF sA sH sL hg0) (by decide) (by decide) hE (g := (mkF m 18 #[rv a0, iv 1, iv 0, .unset] [(.int 0), (.ref a0)])) rfl (by rw [hml]; rfl) (argsL := [(.int 0)]) (rest := []) (lenOf pd__I_C rfl) rfl (hb hby d4_18) rfl e1 (by decide : 0 + 0 ≤ _) (by decide : 0 + 0 ≤ _)
  obtain ⟨rfl, N2q, hh2⟩ := hQ2
  have N2 := Fr.app N1 N2q
  have e2 : T2.heap = h0 := hh2
  have S3 : ∀ t, oS p e below T2 (mkF m 25 #[rv a0, iv 1, iv 0, iv c0] [(.int 32), (.int c0)]) t → oS p e below s₁ (mkF m 0 #[rv a0, .unset, .unset, .unset] []) t := fun t k => id (by
    show oS p e below s₁ (mkF m 0 #[rv a0, .unset, .unset, .unset] []) _
    refine XT.iconstV X0.here hx rfl (1 : Int32) (hb hby d4_0) (by decide) ?_
    refine XS.istoreN X0.here hx rfl (hb hby d4_1) rfl (l' := #[rv a0, iv 1, .unset, .unset]) rfl ?_
    refine XT.iconstV X0.here hx rfl (0 : Int32) (hb hby d4_2) (by decide) ?_
    refine XS.istoreN X0.here hx rfl (hb hby d4_3) rfl (l' := #[rv a0, iv 1, iv 0, .unset]) rfl ?_
    refine XS.iloadN X0.here hx rfl (hb hby d4_4) rfl ?_
    refine XS.aloadN X0.here hx rfl (hb hby d4_5) rfl rfl ?_
    refine st1 _ ?_
    refine XS.icmpNo X1.here hx rfl (hb hby d4_9) rfl (XT.ii_ge_f (by decide)) ?_
    refine XS.iloadN X1.here hx rfl (hb hby d4_12) rfl ?_
    refine XS.ifNo X1.here hx rfl (hb hby d4_13) rfl (XT.i0_eq_f (by decide)) ?_
    refine XS.aloadN X1.here hx rfl (hb hby d4_16) rfl rfl ?_
    refine XS.iloadN X1.here hx rfl (hb hby d4_17) rfl ?_
    refine st2 _ ?_
    refine XS.istoreN X2.here hx rfl (hb hby d4_21) rfl (l' := #[rv a0, iv 1, iv 0, iv c0]) rfl ?_
    refine XS.iloadN X2.here hx rfl (hb hby d4_22) rfl ?_
    refine XT.bipushV X2.here hx rfl (32 : Int32) (hb hby d4_23) (by decide) ?_
    exact k)
  by_cases hc25_4 : c0 = (32 : Int32)
  · obtain ⟨_, T5, Lc5, X5, hQ5, st5⟩ := own_virtual (W := 1) (y := mN5) (z := mN5) X2 hx hZ hown (hw _ (own_w 27 rfl)) (hw _ (own_w 28 rfl)) (notFace_of_selects (args := #[]) (mvT hZ (hw _ (own_w 30 rfl)))) (hw _ (own_w 30 rfl)) (hw _ (own_w 29 rfl)) (hw _ (own_w 31 rfl)) (hw _ (own_w 4 rfl)) (by decide) (rmLenJ_3 l Z av0 hw [] a0 wC fm c0 c1 c2 h0 n0 Z0 hE hSt hS hw0) (by decide) (by decide) hE (g := (mkF m 6 #[rv a0, iv 0, iv 1, iv c0] [(.ref a0), (.int 1)])) rfl (by rw [hml]; rfl) (argsL := []) (rest := [(.int 1)]) (lenOf pd__I rfl) rfl (hb hby d4_6) rfl e2 (by decide : 0 + 0 ≤ _) (by decide : 0 + 0 ≤ _)
    obtain ⟨rfl, N5q, hh5⟩ := hQ5
    have N5 := Fr.app N2 N5q
    have e5 : T5.heap = h0 := hh5
    have S6 : ∀ t, oS p e below T5 (mkF m 48 #[rv a0, iv 0, iv 1, iv c0] [(.int 0)]) t → oS p e below s₁ (mkF m 0 #[rv a0, .unset, .unset, .unset] []) t := fun t k => S3 t (by
      show oS p e below T2 (mkF m 25 #[rv a0, iv 1, iv 0, iv c0] [(.int 32), (.int c0)]) _
      refine XS.icmpYes X2.here hx rfl (pc0 := 25) (pc' := 39) rfl (hb hby d4_25) rfl (XT.ii_eq_t hc25_4) (by decide) (by decide) ?_
      refine XT.iconstV X2.here hx rfl (0 : Int32) (hb hby d4_39) (by decide) ?_
      refine XS.istoreN X2.here hx rfl (hb hby d4_40) rfl (l' := #[rv a0, iv 0, iv 0, iv c0]) rfl ?_
      refine XT.iincV X2.here hx rfl (1 : Int32) (hb hby d4_41) (by decide) rfl (l' := #[rv a0, iv 0, iv 1, iv c0]) rfl ?_
      show oS p e below T2 (mkF m 44 #[rv a0, iv 0, iv 1, iv c0] []) _
      refine XS.goto X2.here hx rfl (pc0 := 44) (pc' := 4) rfl (hb hby d4_44) (by decide) (by decide) ?_
      refine XS.iloadN X2.here hx rfl (hb hby d4_4) rfl ?_
      refine XS.aloadN X2.here hx rfl (hb hby d4_5) rfl rfl ?_
      refine st5 _ ?_
      refine XS.icmpNo X5.here hx rfl (hb hby d4_9) rfl (XT.ii_ge_f (by decide)) ?_
      refine XS.iloadN X5.here hx rfl (hb hby d4_12) rfl ?_
      refine XS.ifYes X5.here hx rfl (pc0 := 13) (pc' := 47) rfl (hb hby d4_13) rfl (XT.i0_eq_t (by decide)) (by decide) (by decide) ?_
      refine XS.iloadN X5.here hx rfl (hb hby d4_47) rfl ?_
      exact k)
    obtain ⟨fs, hr, hrun, hended, hW, hsame⟩ := X5.leave (v := some (.int 0)) (fun h => by rw [Bd.returns] at h; cases h)
    refine ⟨_, _, pre0 _ (S6 _ ?_), hrun, hended, _, _, rfl, ?_, ⟨_, rfl⟩, hW, hsame.mono (by decide) (by decide)⟩
    · exact retN X5 hx (t := .boolean) Bd.returns (by simp) (hb hby d4_48) hr
    · show QrmNs_3 Z a0 wC fm c0 c1 c2 h0 n0 _ T5.heap _
      rw [e5]
      exact ⟨by simp [own_ns, hc25_4], N5, rfl⟩
  · obtain ⟨_, T7, Lc7, X7, hQ7, st7⟩ := own_callS (W := 0) (y := mN0) X2 hx hZ hown (hw _ (own_w 74 rfl)) (hw _ (own_w 75 rfl)) (hw _ (own_w 76 rfl)) (hw _ (own_w 77 rfl)) (by decide) (rmB l Z av0 hw [] c0 h0 n0 Z0 ) (by decide) (by decide) (g := (mkF m 29 #[rv a0, iv 1, iv 0, iv c0] [(.int c0)])) rfl (by rw [hml]; rfl) (argsL := [(.int c0)]) (rest := []) (lenOf pd__C_Z rfl) rfl (hb hby d4_29) rfl e2 (by decide : 0 + 0 ≤ _) (by decide : 0 + 0 ≤ _)
    obtain ⟨rfl, N7q, hh7⟩ := hQ7
    have N7 := Fr.app N2 N7q
    have e7 : T7.heap = h0 := hh7
    have S8 : ∀ t, oS p e below T7 (mkF m 32 #[rv a0, iv 1, iv 0, iv c0] [(.int (own_bl c0))]) t → oS p e below s₁ (mkF m 0 #[rv a0, .unset, .unset, .unset] []) t := fun t k => S3 t (by
      show oS p e below T2 (mkF m 25 #[rv a0, iv 1, iv 0, iv c0] [(.int 32), (.int c0)]) _
      refine XS.icmpNo X2.here hx rfl (hb hby d4_25) rfl (XT.ii_eq_f hc25_4) ?_
      refine XS.iloadN X2.here hx rfl (hb hby d4_28) rfl ?_
      refine st7 _ ?_
      exact k)
    by_cases hc32_9 : (own_bl c0) = (0 : Int32)
    · obtain ⟨_, T10, Lc10, X10, hQ10, st10⟩ := own_virtual (W := 1) (y := mN5) (z := mN5) X7 hx hZ hown (hw _ (own_w 27 rfl)) (hw _ (own_w 28 rfl)) (notFace_of_selects (args := #[]) (mvT hZ (hw _ (own_w 30 rfl)))) (hw _ (own_w 30 rfl)) (hw _ (own_w 29 rfl)) (hw _ (own_w 31 rfl)) (hw _ (own_w 4 rfl)) (by decide) (rmLenJ_3 l Z av0 hw [] a0 wC fm c0 c1 c2 h0 n0 Z0 hE hSt hS hw0) (by decide) (by decide) hE (g := (mkF m 6 #[rv a0, iv 1, iv 1, iv c0] [(.ref a0), (.int 1)])) rfl (by rw [hml]; rfl) (argsL := []) (rest := [(.int 1)]) (lenOf pd__I rfl) rfl (hb hby d4_6) rfl e7 (by decide : 0 + 0 ≤ _) (by decide : 0 + 0 ≤ _)
      obtain ⟨rfl, N10q, hh10⟩ := hQ10
      have N10 := Fr.app N7 N10q
      have e10 : T10.heap = h0 := hh10
      obtain ⟨_, T11, Lc11, X11, hQ11, st11⟩ := own_virtual (W := 0) (y := mN14) (z := mN14) X10 hx hZ hown (hw _ (own_w 52 rfl)) (hw _ (own_w 53 rfl)) (notFace_of_selects (args := #[]) (mvT hZ (hw _ (own_w 55 rfl)))) (hw _ (own_w 55 rfl)) (hw _ (own_w 54 rfl)) (hw _ (own_w 56 rfl)) (hw _ (own_w 4 rfl)) (by decide) (rmChJ_3_1 l Z av0 hw [] a0 wC fm c0 c1 c2 h0 n0 Z0 hE hSt hS hw0 hfm hF sA sH sL hg1) (by decide) (by decide) hE (g := (mkF m 18 #[rv a0, iv 1, iv 1, iv c0] [(.int 1), (.ref a0)])) rfl (by rw [hml]; rfl) (argsL := [(.int 1)]) (rest := []) (lenOf pd__I_C rfl) rfl (hb hby d4_18) rfl e10 (by decide : 0 + 0 ≤ _) (by decide : 0 + 0 ≤ _)
      obtain ⟨rfl, N11q, hh11⟩ := hQ11
      have N11 := Fr.app N10 N11q
      have e11 : T11.heap = h0 := hh11
      have S12 : ∀ t, oS p e below T11 (mkF m 25 #[rv a0, iv 1, iv 1, iv c1] [(.int 32), (.int c1)]) t → oS p e below s₁ (mkF m 0 #[rv a0, .unset, .unset, .unset] []) t := fun t k => S8 t (by
        show oS p e below T7 (mkF m 32 #[rv a0, iv 1, iv 0, iv c0] [(.int (own_bl c0))]) _
        refine XS.ifNo X7.here hx rfl (hb hby d4_32) rfl (XT.i0_ne_f hc32_9) ?_
        show oS p e below T7 (mkF m 35 #[rv a0, iv 1, iv 0, iv c0] []) _
        refine XT.iconstV X7.here hx rfl (1 : Int32) (hb hby d4_35) (by decide) ?_
        refine XS.goto X7.here hx rfl (pc0 := 36) (pc' := 40) rfl (hb hby d4_36) (by decide) (by decide) ?_
        refine XS.istoreN X7.here hx rfl (hb hby d4_40) rfl (l' := #[rv a0, iv 1, iv 0, iv c0]) rfl ?_
        refine XT.iincV X7.here hx rfl (1 : Int32) (hb hby d4_41) (by decide) rfl (l' := #[rv a0, iv 1, iv 1, iv c0]) rfl ?_
        refine XS.goto X7.here hx rfl (pc0 := 44) (pc' := 4) rfl (hb hby d4_44) (by decide) (by decide) ?_
        refine XS.iloadN X7.here hx rfl (hb hby d4_4) rfl ?_
        refine XS.aloadN X7.here hx rfl (hb hby d4_5) rfl rfl ?_
        refine st10 _ ?_
        refine XS.icmpNo X10.here hx rfl (hb hby d4_9) rfl (XT.ii_ge_f (by decide)) ?_
        refine XS.iloadN X10.here hx rfl (hb hby d4_12) rfl ?_
        refine XS.ifNo X10.here hx rfl (hb hby d4_13) rfl (XT.i0_eq_f (by decide)) ?_
        refine XS.aloadN X10.here hx rfl (hb hby d4_16) rfl rfl ?_
        refine XS.iloadN X10.here hx rfl (hb hby d4_17) rfl ?_
        refine st11 _ ?_
        refine XS.istoreN X11.here hx rfl (hb hby d4_21) rfl (l' := #[rv a0, iv 1, iv 1, iv c1]) rfl ?_
        refine XS.iloadN X11.here hx rfl (hb hby d4_22) rfl ?_
        refine XT.bipushV X11.here hx rfl (32 : Int32) (hb hby d4_23) (by decide) ?_
        exact k)
      by_cases hc25_13 : c1 = (32 : Int32)
      · obtain ⟨_, T14, Lc14, X14, hQ14, st14⟩ := own_virtual (W := 1) (y := mN5) (z := mN5) X11 hx hZ hown (hw _ (own_w 27 rfl)) (hw _ (own_w 28 rfl)) (notFace_of_selects (args := #[]) (mvT hZ (hw _ (own_w 30 rfl)))) (hw _ (own_w 30 rfl)) (hw _ (own_w 29 rfl)) (hw _ (own_w 31 rfl)) (hw _ (own_w 4 rfl)) (by decide) (rmLenJ_3 l Z av0 hw [] a0 wC fm c0 c1 c2 h0 n0 Z0 hE hSt hS hw0) (by decide) (by decide) hE (g := (mkF m 6 #[rv a0, iv 0, iv 2, iv c1] [(.ref a0), (.int 2)])) rfl (by rw [hml]; rfl) (argsL := []) (rest := [(.int 2)]) (lenOf pd__I rfl) rfl (hb hby d4_6) rfl e11 (by decide : 0 + 0 ≤ _) (by decide : 0 + 0 ≤ _)
        obtain ⟨rfl, N14q, hh14⟩ := hQ14
        have N14 := Fr.app N11 N14q
        have e14 : T14.heap = h0 := hh14
        have S15 : ∀ t, oS p e below T14 (mkF m 48 #[rv a0, iv 0, iv 2, iv c1] [(.int 0)]) t → oS p e below s₁ (mkF m 0 #[rv a0, .unset, .unset, .unset] []) t := fun t k => S12 t (by
          show oS p e below T11 (mkF m 25 #[rv a0, iv 1, iv 1, iv c1] [(.int 32), (.int c1)]) _
          refine XS.icmpYes X11.here hx rfl (pc0 := 25) (pc' := 39) rfl (hb hby d4_25) rfl (XT.ii_eq_t hc25_13) (by decide) (by decide) ?_
          refine XT.iconstV X11.here hx rfl (0 : Int32) (hb hby d4_39) (by decide) ?_
          refine XS.istoreN X11.here hx rfl (hb hby d4_40) rfl (l' := #[rv a0, iv 0, iv 1, iv c1]) rfl ?_
          show oS p e below T11 (mkF m 41 #[rv a0, iv 0, iv 1, iv c1] []) _
          refine XT.iincV X11.here hx rfl (1 : Int32) (hb hby d4_41) (by decide) rfl (l' := #[rv a0, iv 0, iv 2, iv c1]) rfl ?_
          refine XS.goto X11.here hx rfl (pc0 := 44) (pc' := 4) rfl (hb hby d4_44) (by decide) (by decide) ?_
          refine XS.iloadN X11.here hx rfl (hb hby d4_4) rfl ?_
          refine XS.aloadN X11.here hx rfl (hb hby d4_5) rfl rfl ?_
          refine st14 _ ?_
          refine XS.icmpNo X14.here hx rfl (hb hby d4_9) rfl (XT.ii_ge_f (by decide)) ?_
          refine XS.iloadN X14.here hx rfl (hb hby d4_12) rfl ?_
          refine XS.ifYes X14.here hx rfl (pc0 := 13) (pc' := 47) rfl (hb hby d4_13) rfl (XT.i0_eq_t (by decide)) (by decide) (by decide) ?_
          refine XS.iloadN X14.here hx rfl (hb hby d4_47) rfl ?_
          exact k)
        obtain ⟨fs, hr, hrun, hended, hW, hsame⟩ := X14.leave (v := some (.int 0)) (fun h => by rw [Bd.returns] at h; cases h)
        refine ⟨_, _, pre0 _ (S15 _ ?_), hrun, hended, _, _, rfl, ?_, ⟨_, rfl⟩, hW, hsame.mono (by decide) (by decide)⟩
        · exact retN X14 hx (t := .boolean) Bd.returns (by simp) (hb hby d4_48) hr
        · show QrmNs_3 Z a0 wC fm c0 c1 c2 h0 n0 _ T14.heap _
          rw [e14]
          exact ⟨by simp [own_ns, hc25_4, hc32_9, hc25_13], N14, rfl⟩
      · obtain ⟨_, T16, Lc16, X16, hQ16, st16⟩ := own_callS (W := 0) (y := mN0) X11 hx hZ hown (hw _ (own_w 74 rfl)) (hw _ (own_w 75 rfl)) (hw _ (own_w 76 rfl)) (hw _ (own_w 77 rfl)) (by decide) (rmB l Z av0 hw [] c1 h0 n0 Z0 ) (by decide) (by decide) (g := (mkF m 29 #[rv a0, iv 1, iv 1, iv c1] [(.int c1)])) rfl (by rw [hml]; rfl) (argsL := [(.int c1)]) (rest := []) (lenOf pd__C_Z rfl) rfl (hb hby d4_29) rfl e11 (by decide : 0 + 0 ≤ _) (by decide : 0 + 0 ≤ _)
        obtain ⟨rfl, N16q, hh16⟩ := hQ16
        have N16 := Fr.app N11 N16q
        have e16 : T16.heap = h0 := hh16
        have S17 : ∀ t, oS p e below T16 (mkF m 32 #[rv a0, iv 1, iv 1, iv c1] [(.int (own_bl c1))]) t → oS p e below s₁ (mkF m 0 #[rv a0, .unset, .unset, .unset] []) t := fun t k => S12 t (by
          show oS p e below T11 (mkF m 25 #[rv a0, iv 1, iv 1, iv c1] [(.int 32), (.int c1)]) _
          refine XS.icmpNo X11.here hx rfl (hb hby d4_25) rfl (XT.ii_eq_f hc25_13) ?_
          refine XS.iloadN X11.here hx rfl (hb hby d4_28) rfl ?_
          refine st16 _ ?_
          show oS p e below T16 (mkF m 32 #[rv a0, iv 1, iv 1, iv c1] [(.int (own_bl c1))]) _
          exact k)
        by_cases hc32_18 : (own_bl c1) = (0 : Int32)
        · obtain ⟨_, T19, Lc19, X19, hQ19, st19⟩ := own_virtual (W := 1) (y := mN5) (z := mN5) X16 hx hZ hown (hw _ (own_w 27 rfl)) (hw _ (own_w 28 rfl)) (notFace_of_selects (args := #[]) (mvT hZ (hw _ (own_w 30 rfl)))) (hw _ (own_w 30 rfl)) (hw _ (own_w 29 rfl)) (hw _ (own_w 31 rfl)) (hw _ (own_w 4 rfl)) (by decide) (rmLenJ_3 l Z av0 hw [] a0 wC fm c0 c1 c2 h0 n0 Z0 hE hSt hS hw0) (by decide) (by decide) hE (g := (mkF m 6 #[rv a0, iv 1, iv 2, iv c1] [(.ref a0), (.int 2)])) rfl (by rw [hml]; rfl) (argsL := []) (rest := [(.int 2)]) (lenOf pd__I rfl) rfl (hb hby d4_6) rfl e16 (by decide : 0 + 0 ≤ _) (by decide : 0 + 0 ≤ _)
          obtain ⟨rfl, N19q, hh19⟩ := hQ19
          have N19 := Fr.app N16 N19q
          have e19 : T19.heap = h0 := hh19
          obtain ⟨_, T20, Lc20, X20, hQ20, st20⟩ := own_virtual (W := 0) (y := mN14) (z := mN14) X19 hx hZ hown (hw _ (own_w 52 rfl)) (hw _ (own_w 53 rfl)) (notFace_of_selects (args := #[]) (mvT hZ (hw _ (own_w 55 rfl)))) (hw _ (own_w 55 rfl)) (hw _ (own_w 54 rfl)) (hw _ (own_w 56 rfl)) (hw _ (own_w 4 rfl)) (by decide) (rmChJ_3_2 l Z av0 hw [] a0 wC fm c0 c1 c2 h0 n0 Z0 hE hSt hS hw0 hfm hF sA sH sL hg2) (by decide) (by decide) hE (g := (mkF m 18 #[rv a0, iv 1, iv 2, iv c1] [(.int 2), (.ref a0)])) rfl (by rw [hml]; rfl) (argsL := [(.int 2)]) (rest := []) (lenOf pd__I_C rfl) rfl (hb hby d4_18) rfl e19 (by decide : 0 + 0 ≤ _) (by decide : 0 + 0 ≤ _)
          obtain ⟨rfl, N20q, hh20⟩ := hQ20
          have N20 := Fr.app N19 N20q
          have e20 : T20.heap = h0 := hh20
          have S21 : ∀ t, oS p e below T20 (mkF m 25 #[rv a0, iv 1, iv 2, iv c2] [(.int 32), (.int c2)]) t → oS p e below s₁ (mkF m 0 #[rv a0, .unset, .unset, .unset] []) t := fun t k => S17 t (by
            show oS p e below T16 (mkF m 32 #[rv a0, iv 1, iv 1, iv c1] [(.int (own_bl c1))]) _
            refine XS.ifNo X16.here hx rfl (hb hby d4_32) rfl (XT.i0_ne_f hc32_18) ?_
            refine XT.iconstV X16.here hx rfl (1 : Int32) (hb hby d4_35) (by decide) ?_
            refine XS.goto X16.here hx rfl (pc0 := 36) (pc' := 40) rfl (hb hby d4_36) (by decide) (by decide) ?_
            refine XS.istoreN X16.here hx rfl (hb hby d4_40) rfl (l' := #[rv a0, iv 1, iv 1, iv c1]) rfl ?_
            refine XT.iincV X16.here hx rfl (1 : Int32) (hb hby d4_41) (by decide) rfl (l' := #[rv a0, iv 1, iv 2, iv c1]) rfl ?_
            refine XS.goto X16.here hx rfl (pc0 := 44) (pc' := 4) rfl (hb hby d4_44) (by decide) (by decide) ?_
            refine XS.iloadN X16.here hx rfl (hb hby d4_4) rfl ?_
            refine XS.aloadN X16.here hx rfl (hb hby d4_5) rfl rfl ?_
            refine st19 _ ?_
            refine XS.icmpNo X19.here hx rfl (hb hby d4_9) rfl (XT.ii_ge_f (by decide)) ?_
            refine XS.iloadN X19.here hx rfl (hb hby d4_12) rfl ?_
            refine XS.ifNo X19.here hx rfl (hb hby d4_13) rfl (XT.i0_eq_f (by decide)) ?_
            refine XS.aloadN X19.here hx rfl (hb hby d4_16) rfl rfl ?_
            refine XS.iloadN X19.here hx rfl (hb hby d4_17) rfl ?_
            refine st20 _ ?_
            refine XS.istoreN X20.here hx rfl (hb hby d4_21) rfl (l' := #[rv a0, iv 1, iv 2, iv c2]) rfl ?_
            refine XS.iloadN X20.here hx rfl (hb hby d4_22) rfl ?_
            refine XT.bipushV X20.here hx rfl (32 : Int32) (hb hby d4_23) (by decide) ?_
            exact k)
          by_cases hc25_22 : c2 = (32 : Int32)
          · obtain ⟨_, T23, Lc23, X23, hQ23, st23⟩ := own_virtual (W := 1) (y := mN5) (z := mN5) X20 hx hZ hown (hw _ (own_w 27 rfl)) (hw _ (own_w 28 rfl)) (notFace_of_selects (args := #[]) (mvT hZ (hw _ (own_w 30 rfl)))) (hw _ (own_w 30 rfl)) (hw _ (own_w 29 rfl)) (hw _ (own_w 31 rfl)) (hw _ (own_w 4 rfl)) (by decide) (rmLenJ_3 l Z av0 hw [] a0 wC fm c0 c1 c2 h0 n0 Z0 hE hSt hS hw0) (by decide) (by decide) hE (g := (mkF m 6 #[rv a0, iv 0, iv 3, iv c2] [(.ref a0), (.int 3)])) rfl (by rw [hml]; rfl) (argsL := []) (rest := [(.int 3)]) (lenOf pd__I rfl) rfl (hb hby d4_6) rfl e20 (by decide : 0 + 0 ≤ _) (by decide : 0 + 0 ≤ _)
            obtain ⟨rfl, N23q, hh23⟩ := hQ23
            have N23 := Fr.app N20 N23q
            have e23 : T23.heap = h0 := hh23
            have S24 : ∀ t, oS p e below T23 (mkF m 48 #[rv a0, iv 0, iv 3, iv c2] [(.int 0)]) t → oS p e below s₁ (mkF m 0 #[rv a0, .unset, .unset, .unset] []) t := fun t k => S21 t (by
              show oS p e below T20 (mkF m 25 #[rv a0, iv 1, iv 2, iv c2] [(.int 32), (.int c2)]) _
              refine XS.icmpYes X20.here hx rfl (pc0 := 25) (pc' := 39) rfl (hb hby d4_25) rfl (XT.ii_eq_t hc25_22) (by decide) (by decide) ?_
              refine XT.iconstV X20.here hx rfl (0 : Int32) (hb hby d4_39) (by decide) ?_
              show oS p e below T20 (mkF m 40 #[rv a0, iv 1, iv 2, iv c2] [(.int 0)]) _
              refine XS.istoreN X20.here hx rfl (hb hby d4_40) rfl (l' := #[rv a0, iv 0, iv 2, iv c2]) rfl ?_
              refine XT.iincV X20.here hx rfl (1 : Int32) (hb hby d4_41) (by decide) rfl (l' := #[rv a0, iv 0, iv 3, iv c2]) rfl ?_
              refine XS.goto X20.here hx rfl (pc0 := 44) (pc' := 4) rfl (hb hby d4_44) (by decide) (by decide) ?_
              refine XS.iloadN X20.here hx rfl (hb hby d4_4) rfl ?_
              refine XS.aloadN X20.here hx rfl (hb hby d4_5) rfl rfl ?_
              refine st23 _ ?_
              refine XS.icmpYes X23.here hx rfl (pc0 := 9) (pc' := 47) rfl (hb hby d4_9) rfl (XT.ii_ge_t (by decide)) (by decide) (by decide) ?_
              refine XS.iloadN X23.here hx rfl (hb hby d4_47) rfl ?_
              exact k)
            obtain ⟨fs, hr, hrun, hended, hW, hsame⟩ := X23.leave (v := some (.int 0)) (fun h => by rw [Bd.returns] at h; cases h)
            refine ⟨_, _, pre0 _ (S24 _ ?_), hrun, hended, _, _, rfl, ?_, ⟨_, rfl⟩, hW, hsame.mono (by decide) (by decide)⟩
            · exact retN X23 hx (t := .boolean) Bd.returns (by simp) (hb hby d4_48) hr
            · show QrmNs_3 Z a0 wC fm c0 c1 c2 h0 n0 _ T23.heap _
              rw [e23]
              exact ⟨by simp [own_ns, hc25_4, hc32_9, hc25_13, hc32_18, hc25_22], N23, rfl⟩
          · obtain ⟨_, T25, Lc25, X25, hQ25, st25⟩ := own_callS (W := 0) (y := mN0) X20 hx hZ hown (hw _ (own_w 74 rfl)) (hw _ (own_w 75 rfl)) (hw _ (own_w 76 rfl)) (hw _ (own_w 77 rfl)) (by decide) (rmB l Z av0 hw [] c2 h0 n0 Z0 ) (by decide) (by decide) (g := (mkF m 29 #[rv a0, iv 1, iv 2, iv c2] [(.int c2)])) rfl (by rw [hml]; rfl) (argsL := [(.int c2)]) (rest := []) (lenOf pd__C_Z rfl) rfl (hb hby d4_29) rfl e20 (by decide : 0 + 0 ≤ _) (by decide : 0 + 0 ≤ _)
            obtain ⟨rfl, N25q, hh25⟩ := hQ25
            have N25 := Fr.app N20 N25q
            have e25 : T25.heap = h0 := hh25
            have S26 : ∀ t, oS p e below T25 (mkF m 32 #[rv a0, iv 1, iv 2, iv c2] [(.int (own_bl c2))]) t → oS p e below s₁ (mkF m 0 #[rv a0, .unset, .unset, .unset] []) t := fun t k => S21 t (by
              show oS p e below T20 (mkF m 25 #[rv a0, iv 1, iv 2, iv c2] [(.int 32), (.int c2)]) _
              refine XS.icmpNo X20.here hx rfl (hb hby d4_25) rfl (XT.ii_eq_f hc25_22) ?_
              refine XS.iloadN X20.here hx rfl (hb hby d4_28) rfl ?_
              show oS p e below T20 (mkF m 29 #[rv a0, iv 1, iv 2, iv c2] [(.int c2)]) _
              refine st25 _ ?_
              exact k)
            by_cases hc32_27 : (own_bl c2) = (0 : Int32)
            · obtain ⟨_, T28, Lc28, X28, hQ28, st28⟩ := own_virtual (W := 1) (y := mN5) (z := mN5) X25 hx hZ hown (hw _ (own_w 27 rfl)) (hw _ (own_w 28 rfl)) (notFace_of_selects (args := #[]) (mvT hZ (hw _ (own_w 30 rfl)))) (hw _ (own_w 30 rfl)) (hw _ (own_w 29 rfl)) (hw _ (own_w 31 rfl)) (hw _ (own_w 4 rfl)) (by decide) (rmLenJ_3 l Z av0 hw [] a0 wC fm c0 c1 c2 h0 n0 Z0 hE hSt hS hw0) (by decide) (by decide) hE (g := (mkF m 6 #[rv a0, iv 1, iv 3, iv c2] [(.ref a0), (.int 3)])) rfl (by rw [hml]; rfl) (argsL := []) (rest := [(.int 3)]) (lenOf pd__I rfl) rfl (hb hby d4_6) rfl e25 (by decide : 0 + 0 ≤ _) (by decide : 0 + 0 ≤ _)
              obtain ⟨rfl, N28q, hh28⟩ := hQ28
              have N28 := Fr.app N25 N28q
              have e28 : T28.heap = h0 := hh28
              have S29 : ∀ t, oS p e below T28 (mkF m 48 #[rv a0, iv 1, iv 3, iv c2] [(.int 1)]) t → oS p e below s₁ (mkF m 0 #[rv a0, .unset, .unset, .unset] []) t := fun t k => S26 t (by
                show oS p e below T25 (mkF m 32 #[rv a0, iv 1, iv 2, iv c2] [(.int (own_bl c2))]) _
                refine XS.ifNo X25.here hx rfl (hb hby d4_32) rfl (XT.i0_ne_f hc32_27) ?_
                refine XT.iconstV X25.here hx rfl (1 : Int32) (hb hby d4_35) (by decide) ?_
                refine XS.goto X25.here hx rfl (pc0 := 36) (pc' := 40) rfl (hb hby d4_36) (by decide) (by decide) ?_
                refine XS.istoreN X25.here hx rfl (hb hby d4_40) rfl (l' := #[rv a0, iv 1, iv 2, iv c2]) rfl ?_
                refine XT.iincV X25.here hx rfl (1 : Int32) (hb hby d4_41) (by decide) rfl (l' := #[rv a0, iv 1, iv 3, iv c2]) rfl ?_
                refine XS.goto X25.here hx rfl (pc0 := 44) (pc' := 4) rfl (hb hby d4_44) (by decide) (by decide) ?_
                refine XS.iloadN X25.here hx rfl (hb hby d4_4) rfl ?_
                refine XS.aloadN X25.here hx rfl (hb hby d4_5) rfl rfl ?_
                refine st28 _ ?_
                refine XS.icmpYes X28.here hx rfl (pc0 := 9) (pc' := 47) rfl (hb hby d4_9) rfl (XT.ii_ge_t (by decide)) (by decide) (by decide) ?_
                refine XS.iloadN X28.here hx rfl (hb hby d4_47) rfl ?_
                exact k)
              obtain ⟨fs, hr, hrun, hended, hW, hsame⟩ := X28.leave (v := some (.int 1)) (fun h => by rw [Bd.returns] at h; cases h)
              refine ⟨_, _, pre0 _ (S29 _ ?_), hrun, hended, _, _, rfl, ?_, ⟨_, rfl⟩, hW, hsame.mono (by decide) (by decide)⟩
              · exact retN X28 hx (t := .boolean) Bd.returns (by simp) (hb hby d4_48) hr
              · show QrmNs_3 Z a0 wC fm c0 c1 c2 h0 n0 _ T28.heap _
                rw [e28]
                exact ⟨by simp [own_ns, hc25_4, hc32_9, hc25_13, hc32_18, hc25_22, hc32_27], N28, rfl⟩
            · obtain ⟨_, T30, Lc30, X30, hQ30, st30⟩ := own_virtual (W := 1) (y := mN5) (z := mN5) X25 hx hZ hown (hw _ (own_w 27 rfl)) (hw _ (own_w 28 rfl)) (notFace_of_selects (args := #[]) (mvT hZ (hw _ (own_w 30 rfl)))) (hw _ (own_w 30 rfl)) (hw _ (own_w 29 rfl)) (hw _ (own_w 31 rfl)) (hw _ (own_w 4 rfl)) (by decide) (rmLenJ_3 l Z av0 hw [] a0 wC fm c0 c1 c2 h0 n0 Z0 hE hSt hS hw0) (by decide) (by decide) hE (g := (mkF m 6 #[rv a0, iv 0, iv 3, iv c2] [(.ref a0), (.int 3)])) rfl (by rw [hml]; rfl) (argsL := []) (rest := [(.int 3)]) (lenOf pd__I rfl) rfl (hb hby d4_6) rfl e25 (by decide : 0 + 0 ≤ _) (by decide : 0 + 0 ≤ _)
              obtain ⟨rfl, N30q, hh30⟩ := hQ30
              have N30 := Fr.app N25 N30q
              have e30 : T30.heap = h0 := hh30
              have S31 : ∀ t, oS p e below T30 (mkF m 48 #[rv a0, iv 0, iv 3, iv c2] [(.int 0)]) t → oS p e below s₁ (mkF m 0 #[rv a0, .unset, .unset, .unset] []) t := fun t k => S26 t (by
                show oS p e below T25 (mkF m 32 #[rv a0, iv 1, iv 2, iv c2] [(.int (own_bl c2))]) _
                refine XS.ifYes X25.here hx rfl (pc0 := 32) (pc' := 39) rfl (hb hby d4_32) rfl (XT.i0_ne_t hc32_27) (by decide) (by decide) ?_
                refine XT.iconstV X25.here hx rfl (0 : Int32) (hb hby d4_39) (by decide) ?_
                refine XS.istoreN X25.here hx rfl (hb hby d4_40) rfl (l' := #[rv a0, iv 0, iv 2, iv c2]) rfl ?_
                refine XT.iincV X25.here hx rfl (1 : Int32) (hb hby d4_41) (by decide) rfl (l' := #[rv a0, iv 0, iv 3, iv c2]) rfl ?_
                refine XS.goto X25.here hx rfl (pc0 := 44) (pc' := 4) rfl (hb hby d4_44) (by decide) (by decide) ?_
                refine XS.iloadN X25.here hx rfl (hb hby d4_4) rfl ?_
                refine XS.aloadN X25.here hx rfl (hb hby d4_5) rfl rfl ?_
                refine st30 _ ?_
                refine XS.icmpYes X30.here hx rfl (pc0 := 9) (pc' := 47) rfl (hb hby d4_9) rfl (XT.ii_ge_t (by decide)) (by decide) (by decide) ?_
                refine XS.iloadN X30.here hx rfl (hb hby d4_47) rfl ?_
                exact k)
              obtain ⟨fs, hr, hrun, hended, hW, hsame⟩ := X30.leave (v := some (.int 0)) (fun h => by rw [Bd.returns] at h; cases h)
              refine ⟨_, _, pre0 _ (S31 _ ?_), hrun, hended, _, _, rfl, ?_, ⟨_, rfl⟩, hW, hsame.mono (by decide) (by decide)⟩
              · exact retN X30 hx (t := .boolean) Bd.returns (by simp) (hb hby d4_48) hr
              · show QrmNs_3 Z a0 wC fm c0 c1 c2 h0 n0 _ T30.heap _
                rw [e30]
                exact ⟨by simp [own_ns, hc25_4, hc32_9, hc25_13, hc32_18, hc25_22, hc32_27], N30, rfl⟩
        · obtain ⟨_, T32, Lc32, X32, hQ32, st32⟩ := own_virtual (W := 1) (y := mN5) (z := mN5) X16 hx hZ hown (hw _ (own_w 27 rfl)) (hw _ (own_w 28 rfl)) (notFace_of_selects (args := #[]) (mvT hZ (hw _ (own_w 30 rfl)))) (hw _ (own_w 30 rfl)) (hw _ (own_w 29 rfl)) (hw _ (own_w 31 rfl)) (hw _ (own_w 4 rfl)) (by decide) (rmLenJ_3 l Z av0 hw [] a0 wC fm c0 c1 c2 h0 n0 Z0 hE hSt hS hw0) (by decide) (by decide) hE (g := (mkF m 6 #[rv a0, iv 0, iv 2, iv c1] [(.ref a0), (.int 2)])) rfl (by rw [hml]; rfl) (argsL := []) (rest := [(.int 2)]) (lenOf pd__I rfl) rfl (hb hby d4_6) rfl e16 (by decide : 0 + 0 ≤ _) (by decide : 0 + 0 ≤ _)
          obtain ⟨rfl, N32q, hh32⟩ := hQ32
          have N32 := Fr.app N16 N32q
          have e32 : T32.heap = h0 := hh32
          have S33 : ∀ t, oS p e below T32 (mkF m 48 #[rv a0, iv 0, iv 2, iv c1] [(.int 0)]) t → oS p e below s₁ (mkF m 0 #[rv a0, .unset, .unset, .unset] []) t := fun t k => S17 t (by
            show oS p e below T16 (mkF m 32 #[rv a0, iv 1, iv 1, iv c1] [(.int (own_bl c1))]) _
            refine XS.ifYes X16.here hx rfl (pc0 := 32) (pc' := 39) rfl (hb hby d4_32) rfl (XT.i0_ne_t hc32_18) (by decide) (by decide) ?_
            refine XT.iconstV X16.here hx rfl (0 : Int32) (hb hby d4_39) (by decide) ?_
            refine XS.istoreN X16.here hx rfl (hb hby d4_40) rfl (l' := #[rv a0, iv 0, iv 1, iv c1]) rfl ?_
            refine XT.iincV X16.here hx rfl (1 : Int32) (hb hby d4_41) (by decide) rfl (l' := #[rv a0, iv 0, iv 2, iv c1]) rfl ?_
            refine XS.goto X16.here hx rfl (pc0 := 44) (pc' := 4) rfl (hb hby d4_44) (by decide) (by decide) ?_
            refine XS.iloadN X16.here hx rfl (hb hby d4_4) rfl ?_
            refine XS.aloadN X16.here hx rfl (hb hby d4_5) rfl rfl ?_
            refine st32 _ ?_
            refine XS.icmpNo X32.here hx rfl (hb hby d4_9) rfl (XT.ii_ge_f (by decide)) ?_
            refine XS.iloadN X32.here hx rfl (hb hby d4_12) rfl ?_
            refine XS.ifYes X32.here hx rfl (pc0 := 13) (pc' := 47) rfl (hb hby d4_13) rfl (XT.i0_eq_t (by decide)) (by decide) (by decide) ?_
            refine XS.iloadN X32.here hx rfl (hb hby d4_47) rfl ?_
            exact k)
          obtain ⟨fs, hr, hrun, hended, hW, hsame⟩ := X32.leave (v := some (.int 0)) (fun h => by rw [Bd.returns] at h; cases h)
          refine ⟨_, _, pre0 _ (S33 _ ?_), hrun, hended, _, _, rfl, ?_, ⟨_, rfl⟩, hW, hsame.mono (by decide) (by decide)⟩
          · exact retN X32 hx (t := .boolean) Bd.returns (by simp) (hb hby d4_48) hr
          · show QrmNs_3 Z a0 wC fm c0 c1 c2 h0 n0 _ T32.heap _
            rw [e32]
            exact ⟨by simp [own_ns, hc25_4, hc32_9, hc25_13, hc32_18], N32, rfl⟩
    · obtain ⟨_, T34, Lc34, X34, hQ34, st34⟩ := own_virtual (W := 1) (y := mN5) (z := mN5) X7 hx hZ hown (hw _ (own_w 27 rfl)) (hw _ (own_w 28 rfl)) (notFace_of_selects (args := #[]) (mvT hZ (hw _ (own_w 30 rfl)))) (hw _ (own_w 30 rfl)) (hw _ (own_w 29 rfl)) (hw _ (own_w 31 rfl)) (hw _ (own_w 4 rfl)) (by decide) (rmLenJ_3 l Z av0 hw [] a0 wC fm c0 c1 c2 h0 n0 Z0 hE hSt hS hw0) (by decide) (by decide) hE (g := (mkF m 6 #[rv a0, iv 0, iv 1, iv c0] [(.ref a0), (.int 1)])) rfl (by rw [hml]; rfl) (argsL := []) (rest := [(.int 1)]) (lenOf pd__I rfl) rfl (hb hby d4_6) rfl e7 (by decide : 0 + 0 ≤ _) (by decide : 0 + 0 ≤ _)
      obtain ⟨rfl, N34q, hh34⟩ := hQ34
      have N34 := Fr.app N7 N34q
      have e34 : T34.heap = h0 := hh34
      have S35 : ∀ t, oS p e below T34 (mkF m 48 #[rv a0, iv 0, iv 1, iv c0] [(.int 0)]) t → oS p e below s₁ (mkF m 0 #[rv a0, .unset, .unset, .unset] []) t := fun t k => S8 t (by
        show oS p e below T7 (mkF m 32 #[rv a0, iv 1, iv 0, iv c0] [(.int (own_bl c0))]) _
        refine XS.ifYes X7.here hx rfl (pc0 := 32) (pc' := 39) rfl (hb hby d4_32) rfl (XT.i0_ne_t hc32_9) (by decide) (by decide) ?_
        show oS p e below T7 (mkF m 39 #[rv a0, iv 1, iv 0, iv c0] []) _
        refine XT.iconstV X7.here hx rfl (0 : Int32) (hb hby d4_39) (by decide) ?_
        refine XS.istoreN X7.here hx rfl (hb hby d4_40) rfl (l' := #[rv a0, iv 0, iv 0, iv c0]) rfl ?_
        refine XT.iincV X7.here hx rfl (1 : Int32) (hb hby d4_41) (by decide) rfl (l' := #[rv a0, iv 0, iv 1, iv c0]) rfl ?_
        refine XS.goto X7.here hx rfl (pc0 := 44) (pc' := 4) rfl (hb hby d4_44) (by decide) (by decide) ?_
        refine XS.iloadN X7.here hx rfl (hb hby d4_4) rfl ?_
        refine XS.aloadN X7.here hx rfl (hb hby d4_5) rfl rfl ?_
        refine st34 _ ?_
        refine XS.icmpNo X34.here hx rfl (hb hby d4_9) rfl (XT.ii_ge_f (by decide)) ?_
        refine XS.iloadN X34.here hx rfl (hb hby d4_12) rfl ?_
        refine XS.ifYes X34.here hx rfl (pc0 := 13) (pc' := 47) rfl (hb hby d4_13) rfl (XT.i0_eq_t (by decide)) (by decide) (by decide) ?_
        refine XS.iloadN X34.here hx rfl (hb hby d4_47) rfl ?_
        exact k)
      obtain ⟨fs, hr, hrun, hended, hW, hsame⟩ := X34.leave (v := some (.int 0)) (fun h => by rw [Bd.returns] at h; cases h)
      refine ⟨_, _, pre0 _ (S35 _ ?_), hrun, hended, _, _, rfl, ?_, ⟨_, rfl⟩, hW, hsame.mono (by decide) (by decide)⟩
      · exact retN X34 hx (t := .boolean) Bd.returns (by simp) (hb hby d4_48) hr
      · show QrmNs_3 Z a0 wC fm c0 c1 c2 h0 n0 _ T34.heap _
        rw [e34]
        exact ⟨by simp [own_ns, hc25_4, hc32_9], N34, rfl⟩
def QrmCp5_3_0 (Z : State) (a0 : Addr) (a2 : Addr) (ka : ClassId) (kb : ClassId) (c0 : Int32) (c1 : Int32) (c2 : Int32) (h0 : Heap) (n0 : Nat) (v : Option Value) (h : Heap) (L : List Loc) : Prop := v = some (.int (0 : Int32)) ∧ Fr n0 L ∧ Keep h0 h [a2] ∧ Arv Z h a2 kb .byte (3 : Int32) [(.int (0 : Int32)), (.int (0 : Int32)), (.int (0 : Int32))] (.int (0 : Int32))
set_option maxRecDepth 65536 in
set_option maxHeartbeats 40000000 in
theorem rmCp5_3_0 (l : Launch) (Z : State) (av0 : Array Value) (hw : ∀ d ∈ tables_1, d.before av0 Z = true) (ws : List Jvm.Cond) (a0 : Addr) (a2 : Addr) (ka : ClassId) (kb : ClassId) (c0 : Int32) (c1 : Int32) (c2 : Int32) (h0 : Heap) (n0 : Nat) (Z0 : n0 ≤ h0.size) (hA : Arv Z h0 a0 ka .char (3 : Int32) [(.int c0), (.int c1), (.int c2)] (.int (0 : Int32))) (hB : Arv Z h0 a2 kb .byte (3 : Int32) [(.int (0 : Int32)), (.int (0 : Int32)), (.int (0 : Int32))] (.int (0 : Int32))) (hne : a0 ≠ a2) (hge : n0 ≤ a2) (hbg : (255 : Int32) < c0) :
    own_Met l mN16 jdk_52_method_21_code 7 (some .int) ws ({ frames := 0, cells := 0, slots := 0, locals := 0 } : Room) #[(.ref a0), (.int 0), (.ref a2), (.int 0), (.int 3)] Z h0 (QrmCp5_3_0 Z a0 a2 ka kb c0 c1 c2 h0 n0) := by
  refine MetFree.of_bodySF (plainFor_of_name pn_StringUTF16) hisR ?_
  intro p e s m args below meth c s₁ Bd hml0 hP hK
  obtain ⟨rfl, hZ, hh⟩ := hP
  have hml : c.maxLocals = 7 := hml0
  obtain ⟨hx, hby, hown, hnm, X0, e0⟩ := own_start Bd hml0 hh
  have N0 := Fr.nil n0
  have pre0 : ∀ t, oS p e below s₁ (mkF m 0 #[rv a0, iv 0, rv a2, iv 0, iv 3, .unset, .unset] []) t → Steps p.tables e below (s₁.setTop (entryFrame m #[(.ref a0), (.int 0), (.ref a2), (.int 0), (.int 3)] 7)) t := fun t k => castTop (by first | (simp [entryFrame, mkF, argsToLocals, Value.category]; done) | rfl) k
  obtain ⟨cl1, Ar1, qk1, Sz1, Ng1, Hs1, Gs1⟩ := id hA
  have hin1 : ¬ ((0 : Int32) < 0 ∨ cl1.slots.size ≤ ((0 : Int32)).toNatClampNeg) := inb_of Sz1 ⟨by decide, by decide⟩
  have hat1 : cl1.slots[((0 : Int32)).toNatClampNeg]? = some (.int c0) := Hs1.at hin1 rfl
  have S2 : ∀ t, oS p e below s₁ (mkF m 25 #[rv a0, iv 0, rv a2, iv 0, iv 3, iv 0, iv c0] [(.int 0)]) t → oS p e below s₁ (mkF m 0 #[rv a0, iv 0, rv a2, iv 0, iv 3, .unset, .unset] []) t := fun t k => id (by
    show oS p e below s₁ (mkF m 0 #[rv a0, iv 0, rv a2, iv 0, iv 3, .unset, .unset] []) _
    refine XT.iconstV X0.here hx rfl (0 : Int32) (hb hby d8_0) (by decide) ?_
    refine XS.istore X0.here hx rfl (hb hby d8_1) rfl (l' := #[rv a0, iv 0, rv a2, iv 0, iv 3, iv 0, .unset]) rfl ?_
    refine XS.iload X0.here hx rfl (hb hby d8_3) rfl ?_
    refine XS.iload X0.here hx rfl (hb hby d8_5) rfl ?_
    refine XS.icmpNo X0.here hx rfl (hb hby d8_7) rfl (XT.ii_ge_f (by decide)) ?_
    refine XS.aloadN X0.here hx rfl (hb hby d8_10) rfl rfl ?_
    refine XS.iloadN X0.here hx rfl (hb hby d8_11) rfl ?_
    refine X0.caload hx (j := (0 : Int32)) (v := (.int c0)) (by rw [e0]; exact Ar1.1) (State.isArrayOf_alike hZ.alike Ar1.2.1) Ar1.2.2 hin1 hat1 (g := (mkF m 12 #[rv a0, iv 0, rv a2, iv 0, iv 3, iv 0, .unset] [(.int 0), (.ref a0)])) rfl rfl (hb hby d8_12) _ ?_
    refine XS.istore X0.here hx rfl (hb hby d8_13) rfl (l' := #[rv a0, iv 0, rv a2, iv 0, iv 3, iv 0, iv c0]) rfl ?_
    refine XS.iload X0.here hx rfl (hb hby d8_15) rfl ?_
    refine XT.sipushV X0.here hx rfl (255 : Int32) (hb hby d8_17) (by decide) ?_
    refine XS.icmpNo X0.here hx rfl (hb hby d8_20) rfl (XT.ii_le_f hbg) ?_
    refine XS.iload X0.here hx rfl (hb hby d8_23) rfl ?_
    exact k)
  obtain ⟨fs, hr, hrun, hended, hW, hsame⟩ := X0.leave (v := some (.int 0)) (fun h => by rw [Bd.returns] at h; cases h)
  refine ⟨_, _, pre0 _ (S2 _ ?_), hrun, hended, _, _, rfl, ?_, ⟨_, rfl⟩, hW, hsame.mono (by decide) (by decide)⟩
  · exact retI X0 hx Bd.returns (hb hby d8_25) hr
  · show QrmCp5_3_0 Z a0 a2 ka kb c0 c1 c2 h0 n0 _ s₁.heap _
    rw [e0]
    exact ⟨congrArg (fun z => some (Value.int z)) (by decide), N0, (Keep.refl _ _), hB⟩
def QrmNbl_3 (Z : State)  (h0 : Heap) (n0 : Nat) (v : Option Value) (h : Heap) (L : List Loc) : Prop := v = some (.int (6 : Int32)) ∧ Fr n0 L ∧ h = h0
set_option maxRecDepth 65536 in
set_option maxHeartbeats 40000000 in
theorem rmNbl_3 (l : Launch) (Z : State) (av0 : Array Value) (hw : ∀ d ∈ tables_1, d.before av0 Z = true) (ws : List Jvm.Cond)  (h0 : Heap) (n0 : Nat) (Z0 : n0 ≤ h0.size)  :
    own_Met l mN17 jdk_52_method_3_code 1 (some .int) ws ({ frames := 0, cells := 0, slots := 0, locals := 0 } : Room) #[(.int 3)] Z h0 (QrmNbl_3 Z  h0 n0) := by
  refine MetFree.of_bodySF (plainFor_of_name pn_StringUTF16) hisR ?_
  intro p e s m args below meth c s₁ Bd hml0 hP hK
  obtain ⟨rfl, hZ, hh⟩ := hP
  have hml : c.maxLocals = 1 := hml0
  obtain ⟨hx, hby, hown, hnm, X0, e0⟩ := own_start Bd hml0 hh
  have N0 := Fr.nil n0
  have pre0 : ∀ t, oS p e below s₁ (mkF m 0 #[iv 3] []) t → Steps p.tables e below (s₁.setTop (entryFrame m #[(.int 3)] 1)) t := fun t k => castTop (by first | (simp [entryFrame, mkF, argsToLocals, Value.category]; done) | rfl) k
  have S1 : ∀ t, oS p e below s₁ (mkF m 58 #[iv 3] [(.int 6)]) t → oS p e below s₁ (mkF m 0 #[iv 3] []) t := fun t k => id (by
    show oS p e below s₁ (mkF m 0 #[iv 3] []) _
    refine XS.iloadN X0.here hx rfl (hb hby d19_0) rfl ?_
    refine XS.ifYes X0.here hx rfl (pc0 := 1) (pc' := 12) rfl (hb hby d19_1) rfl (XT.i0_ge_t (by decide)) (by decide) (by decide) ?_
    refine XS.iloadN X0.here hx rfl (hb hby d19_12) rfl ?_
    refine X0.ldcI hx hown (mvT hZ (hw _ (own_w 87 rfl))) rfl (hb hby d19_13) ?_
    refine XS.icmpYes X0.here hx rfl (pc0 := 15) (pc' := 55) rfl (hb hby d19_15) rfl (XT.ii_lt_t (by decide)) (by decide) (by decide) ?_
    refine XS.iloadN X0.here hx rfl (hb hby d19_55) rfl ?_
    refine XT.iconstV X0.here hx rfl (1 : Int32) (hb hby d19_56) (by decide) ?_
    refine XT.ishl X0.here hx rfl (hb hby d19_57) rfl ?_
    exact k)
  obtain ⟨fs, hr, hrun, hended, hW, hsame⟩ := X0.leave (v := some (.int 6)) (fun h => by rw [Bd.returns] at h; cases h)
  refine ⟨_, _, pre0 _ (S1 _ ?_), hrun, hended, _, _, rfl, ?_, ⟨_, rfl⟩, hW, hsame.mono (by decide) (by decide)⟩
  · exact retI X0 hx Bd.returns (hb hby d19_58) hr
  · show QrmNbl_3 Z  h0 n0 _ s₁.heap _
    rw [e0]
    exact ⟨congrArg (fun z => some (Value.int z)) (by decide), N0, rfl⟩
def QrmNbf_3 (Z : State)  (h0 : Heap) (n0 : Nat) (v : Option Value) (h : Heap) (L : List Loc) : Prop := ∃ (b : Addr) (k : ClassId), v = some (.ref b) ∧ Fr n0 L ∧ h0.size ≤ b ∧ Keep h0 h [] ∧ Arv Z h b k .byte (6 : Int32) [(.int (0 : Int32)), (.int (0 : Int32)), (.int (0 : Int32)), (.int (0 : Int32)), (.int (0 : Int32)), (.int (0 : Int32))] (.int (0 : Int32))
set_option maxRecDepth 65536 in
set_option maxHeartbeats 40000000 in
theorem rmNbf_3 (l : Launch) (Z : State) (av0 : Array Value) (hw : ∀ d ∈ tables_1, d.before av0 Z = true) (ws : List Jvm.Cond)  (h0 : Heap) (n0 : Nat) (Z0 : n0 ≤ h0.size)  :
    own_Met l mN18 jdk_52_method_2_code 1 (some (.array .byte)) ws ({ frames := 1, cells := 1, slots := 6, locals := 12 } : Room) #[(.int 3)] Z h0 (QrmNbf_3 Z  h0 n0) := by
  refine MetFree.of_bodySF (plainFor_of_name pn_StringUTF16) hisR ?_
  intro p e s m args below meth c s₁ Bd hml0 hP hK
  obtain ⟨rfl, hZ, hh⟩ := hP
  have hml : c.maxLocals = 1 := hml0
  obtain ⟨hx, hby, hown, hnm, X0, e0⟩ := own_start Bd hml0 hh
  have N0 := Fr.nil n0
  have pre0 : ∀ t, oS p e below s₁ (mkF m 0 #[iv 3] []) t → Steps p.tables e below (s₁.setTop (entryFrame m #[(.int 3)] 1)) t := fun t k => castTop (by first | (simp [entryFrame, mkF, argsToLocals, Value.category]; done) | rfl) k
  obtain ⟨_, T1, Lc1, X1, hQ1, st1⟩ := own_callS (W := 0) (y := mN17) X0 hx hZ hown (hw _ (own_w 84 rfl)) (hw _ (own_w 85 rfl)) (hw _ (own_w 40 rfl)) (hw _ (own_w 86 rfl)) (by decide) (rmNbl_3 l Z av0 hw []  h0 n0 Z0 ) (by decide) (by decide) (g := (mkF m 1 #[iv 3] [(.int 3)])) rfl (by rw [hml]; rfl) (argsL := [(.int 3)]) (rest := []) (lenOf pd__I_I rfl) rfl (hb hby d18_1) rfl e0 (by decide : 0 + 0 ≤ _) (by decide : 0 + 0 ≤ _)
  obtain ⟨rfl, N1q, hh1⟩ := hQ1
  have N1 := Fr.app N0 N1q
  have e1 : T1.heap = h0 := hh1
  obtain ⟨T2, h2, k2, X2, e2, E2, A2, st2⟩ := newP X1 hx hZ (hw _ (own_w 16 rfl)) e1 (g := (mkF m 4 #[iv 3] [(.int 6)])) rfl (hb hby d18_4) rfl (by decide) (cap := 6) (by decide) (by decide) (by decide) (by decide)
  obtain ⟨b2, g2⟩ : ∃ z, z = h0.size := ⟨_, rfl⟩
  rw [← g2] at A2 st2
  have ge_b2 : n0 ≤ b2 := Nat.le_trans Z0 (Nat.le_of_eq g2.symm)
  have sz_b2 : h0.size ≤ b2 := Nat.le_of_eq g2.symm
  have Z2 : n0 ≤ h2.size := Nat.le_trans Z0 E2.1
  have K2 : Keep h0 h2 [] := (Keep.refl h0 []).ext E2
  have V2 : Arv Z h2 b2 k2 .byte (6 : Int32) [(.int (0 : Int32)), (.int (0 : Int32)), (.int (0 : Int32)), (.int (0 : Int32)), (.int (0 : Int32)), (.int (0 : Int32))] (.int (0 : Int32)) := (Arv.new A2 (by decide)).pad (pad_rep [] (.int (0 : Int32)) 6)
  have S3 : ∀ t, oS p e below T2 (mkF m 6 #[iv 3] [(.ref b2)]) t → oS p e below s₁ (mkF m 0 #[iv 3] []) t := fun t k => id (by
    show oS p e below s₁ (mkF m 0 #[iv 3] []) _
    refine XS.iloadN X0.here hx rfl (hb hby d18_0) rfl ?_
    refine st1 _ ?_
    refine st2 _ ?_
    exact k)
  obtain ⟨fs, hr, hrun, hended, hW, hsame⟩ := X2.leave (v := some (.ref b2)) (fun h => by rw [Bd.returns] at h; cases h)
  refine ⟨_, _, pre0 _ (S3 _ ?_), hrun, hended, _, _, rfl, ?_, ⟨_, rfl⟩, hW, hsame.mono (by decide) (by decide)⟩
  · jvm_step X2.here [X2.here.top, hx, (hb hby d18_6), X2.method', Bd.returns, Value.isRef, FieldType.isReference]
    first | (intro acts; rw [hr _ acts rfl rfl rfl]) | rw [hr _ _ rfl rfl rfl]
    exact Steps.refl _
  · show QrmNbf_3 Z  h0 n0 _ T2.heap _
    rw [e2]
    exact ⟨_, _, rfl, N1, sz_b2, K2, V2⟩
def QrmPut_3_0 (Z : State) (a0 : Addr) (ka : ClassId) (cc : Int32) (h0 : Heap) (n0 : Nat) (v : Option Value) (h : Heap) (L : List Loc) : Prop := v = none ∧ Fr n0 L ∧ Keep h0 h [a0] ∧ Arv Z h a0 ka .byte (6 : Int32) [(.int (own_lo cc)), (.int (own_hi cc)), (.int (0 : Int32)), (.int (0 : Int32)), (.int (0 : Int32)), (.int (0 : Int32))] (.int (0 : Int32))
set_option maxRecDepth 65536 in
set_option maxHeartbeats 40000000 in
theorem rmPut_3_0 (l : Launch) (Z : State) (av0 : Array Value) (hw : ∀ d ∈ tables_1, d.before av0 Z = true) (ws : List Jvm.Cond) (a0 : Addr) (ka : ClassId) (cc : Int32) (h0 : Heap) (n0 : Nat) (Z0 : n0 ≤ h0.size) (hA : Arv Z h0 a0 ka .byte (6 : Int32) [(.int (0 : Int32)), (.int (0 : Int32)), (.int (0 : Int32)), (.int (0 : Int32)), (.int (0 : Int32)), (.int (0 : Int32))] (.int (0 : Int32))) (hge : n0 ≤ a0) (sA : Sta Z h0 "java/lang/StringUTF16" "$assertionsDisabled" "Z" (.int (1 : Int32))) (sH : Sta Z h0 "java/lang/StringUTF16" "HI_BYTE_SHIFT" "I" (.int (0 : Int32))) (sL : Sta Z h0 "java/lang/StringUTF16" "LO_BYTE_SHIFT" "I" (.int (8 : Int32))) :
    own_Met l mN19 jdk_52_method_4_code 3 none ws ({ frames := 0, cells := 0, slots := 0, locals := 0 } : Room) #[(.ref a0), (.int 0), (.int cc)] Z h0 (QrmPut_3_0 Z a0 ka cc h0 n0) := by
  refine MetFree.of_bodySF (plainFor_of_name pn_StringUTF16) hisR ?_
  intro p e s m args below meth c s₁ Bd hml0 hP hK
  obtain ⟨rfl, hZ, hh⟩ := hP
  have hml : c.maxLocals = 3 := hml0
  obtain ⟨hx, hby, hown, hnm, X0, e0⟩ := own_start Bd hml0 hh
  have N0 := Fr.nil n0
  have pre0 : ∀ t, oS p e below s₁ (mkF m 0 #[rv a0, iv 0, iv cc] []) t → Steps p.tables e below (s₁.setTop (entryFrame m #[(.ref a0), (.int 0), (.int cc)] 3)) t := fun t k => castTop (by first | (simp [entryFrame, mkF, argsToLocals, Value.category]; done) | rfl) k
  obtain ⟨T1, X1, e1, st1⟩ := getS2 X0 hx hZ hown (host := "") (Or.inl (hw _ (own_w 91 rfl))) Via.refl e0 sA (g := (mkF m 0 #[rv a0, iv 0, iv cc] [])) rfl (hb hby d20_0)
  obtain ⟨T2, X2, e2, st2⟩ := getS2 X1 hx hZ hown (host := "") (Or.inl (hw _ (own_w 92 rfl))) Via.refl e1 sH (g := (mkF m 38 #[rv a0, iv 1, iv cc] [(.int cc), (.int 0), (.ref a0)])) rfl (hb hby d20_38)
  obtain ⟨cl3, Ar3, qk3, Sz3, Ng3, Hs3, Gs3⟩ := id hA
  have hin3 : ¬ ((0 : Int32) < 0 ∨ cl3.slots.size ≤ ((0 : Int32)).toNatClampNeg) := inb_of Sz3 ⟨by decide, by decide⟩
  obtain ⟨T4, h4, X4, e4, W4, st4⟩ := stB X2 hx hZ e2 Ar3 (j := (0 : Int32)) hin3 (g := (mkF m 43 #[rv a0, iv 1, iv cc] [(.int ((cc >>> ((0 : Int32) &&& 31))).toInt8.toInt32), (.int 0), (.ref a0)])) rfl rfl (hb hby d20_43)
  have N4 := Fr.snoc X4 N0 hge
  have Z4 : n0 ≤ h4.size := Nat.le_trans Z0 (Nat.le_of_eq W4.size.symm)
  have K4 : Keep h0 h4 [a0] := (Keep.refl h0 [a0]).wr W4 (Or.inl (List.mem_of_getElem? (i := 0) rfl))
  have V4 : Arv Z h4 a0 ka .byte (6 : Int32) [(.int (nar .byte ((cc >>> ((0 : Int32) &&& 31))).toInt8.toInt32)), (.int (0 : Int32)), (.int (0 : Int32)), (.int (0 : Int32)), (.int (0 : Int32)), (.int (0 : Int32))] (.int (0 : Int32)) := Arv.set Ar3 qk3 Sz3 Ng3 Hs3 Gs3 (fits_nar_byte _) W4 0 rfl (Nat.le_of_ble_eq_true rfl)
  have f5 := (sL.wr W4)
  obtain ⟨T6, X6, e6, st6⟩ := getS2 X4 hx hZ hown (host := "") (Or.inl (hw _ (own_w 93 rfl))) Via.refl e4 f5 (g := (mkF m 47 #[rv a0, iv 1, iv cc] [(.int cc), (.int 1), (.ref a0)])) rfl (hb hby d20_47)
  obtain ⟨cl7, Ar7, qk7, Sz7, Ng7, Hs7, Gs7⟩ := id V4
  have hin7 : ¬ ((1 : Int32) < 0 ∨ cl7.slots.size ≤ ((1 : Int32)).toNatClampNeg) := inb_of Sz7 ⟨by decide, by decide⟩
  obtain ⟨T8, h8, X8, e8, W8, st8⟩ := stB X6 hx hZ e6 Ar7 (j := (1 : Int32)) hin7 (g := (mkF m 52 #[rv a0, iv 1, iv cc] [(.int ((cc >>> ((8 : Int32) &&& 31))).toInt8.toInt32), (.int 1), (.ref a0)])) rfl rfl (hb hby d20_52)
  have N8 := Fr.snoc X8 N4 hge
  have Z8 : n0 ≤ h8.size := Nat.le_trans Z4 (Nat.le_of_eq W8.size.symm)
  have K8 : Keep h0 h8 [a0] := K4.wr W8 (Or.inl (List.mem_of_getElem? (i := 0) rfl))
  have V8 : Arv Z h8 a0 ka .byte (6 : Int32) [(.int (nar .byte ((cc >>> ((0 : Int32) &&& 31))).toInt8.toInt32)), (.int (nar .byte ((cc >>> ((8 : Int32) &&& 31))).toInt8.toInt32)), (.int (0 : Int32)), (.int (0 : Int32)), (.int (0 : Int32)), (.int (0 : Int32))] (.int (0 : Int32)) := Arv.set Ar7 qk7 Sz7 Ng7 Hs7 Gs7 (fits_nar_byte _) W8 1 rfl (Nat.le_of_ble_eq_true rfl)
  have S9 : ∀ t, oS p e below T8 (mkF m 53 #[rv a0, iv 1, iv cc] []) t → oS p e below s₁ (mkF m 0 #[rv a0, iv 0, iv cc] []) t := fun t k => id (by
    show oS p e below s₁ (mkF m 0 #[rv a0, iv 0, iv cc] []) _
    refine st1 _ ?_
    refine XS.ifYes X1.here hx rfl (pc0 := 3) (pc' := 28) rfl (hb hby d20_3) rfl (XT.i0_ne_t (by decide)) (by decide) (by decide) ?_
    refine XS.iloadN X1.here hx rfl (hb hby d20_28) rfl ?_
    refine XT.iconstV X1.here hx rfl (1 : Int32) (hb hby d20_29) (by decide) ?_
    refine XT.ishl X1.here hx rfl (hb hby d20_30) rfl ?_
    refine XS.istoreN X1.here hx rfl (hb hby d20_31) rfl (l' := #[rv a0, iv 0, iv cc]) rfl ?_
    refine XS.aloadN X1.here hx rfl (hb hby d20_32) rfl rfl ?_
    refine XS.iloadN X1.here hx rfl (hb hby d20_33) rfl ?_
    refine XT.iincV X1.here hx rfl (1 : Int32) (hb hby d20_34) (by decide) rfl (l' := #[rv a0, iv 1, iv cc]) rfl ?_
    refine XS.iloadN X1.here hx rfl (hb hby d20_37) rfl ?_
    refine st2 _ ?_
    refine XT.ishr X2.here hx rfl (hb hby d20_41) rfl ?_
    refine XT.i2b X2.here hx rfl (hb hby d20_42) rfl ?_
    refine st4 _ ?_
    refine XS.aloadN X4.here hx rfl (hb hby d20_44) rfl rfl ?_
    refine XS.iloadN X4.here hx rfl (hb hby d20_45) rfl ?_
    refine XS.iloadN X4.here hx rfl (hb hby d20_46) rfl ?_
    refine st6 _ ?_
    refine XT.ishr X6.here hx rfl (hb hby d20_50) rfl ?_
    refine XT.i2b X6.here hx rfl (hb hby d20_51) rfl ?_
    show oS p e below T6 (mkF m 52 #[rv a0, iv 1, iv cc] [(.int ((cc >>> ((8 : Int32) &&& 31))).toInt8.toInt32), (.int 1), (.ref a0)]) _
    refine st8 _ ?_
    exact k)
  obtain ⟨fs, hr, hrun, hended, hW, hsame⟩ := X8.leave (v := none) (fun _ => rfl)
  refine ⟨_, _, pre0 _ (S9 _ ?_), hrun, hended, _, _, rfl, ?_, ⟨_, rfl⟩, hW, hsame.mono (by decide) (by decide)⟩
  · exact X8.returnOut hx Bd.returns (hb hby d20_53) hr
  · show QrmPut_3_0 Z a0 ka cc h0 n0 _ T8.heap _
    rw [e8]
    exact ⟨rfl, N8, K8, V8⟩
def QrmPut_3_1 (Z : State) (a0 : Addr) (ka : ClassId) (cc : Int32) (c0 : Int32) (h0 : Heap) (n0 : Nat) (v : Option Value) (h : Heap) (L : List Loc) : Prop := v = none ∧ Fr n0 L ∧ Keep h0 h [a0] ∧ Arv Z h a0 ka .byte (6 : Int32) [(.int (own_lo c0)), (.int (own_hi c0)), (.int (own_lo cc)), (.int (own_hi cc)), (.int (0 : Int32)), (.int (0 : Int32))] (.int (0 : Int32))
set_option maxRecDepth 65536 in
set_option maxHeartbeats 40000000 in
theorem rmPut_3_1 (l : Launch) (Z : State) (av0 : Array Value) (hw : ∀ d ∈ tables_1, d.before av0 Z = true) (ws : List Jvm.Cond) (a0 : Addr) (ka : ClassId) (cc : Int32) (c0 : Int32) (h0 : Heap) (n0 : Nat) (Z0 : n0 ≤ h0.size) (hA : Arv Z h0 a0 ka .byte (6 : Int32) [(.int (own_lo c0)), (.int (own_hi c0)), (.int (0 : Int32)), (.int (0 : Int32)), (.int (0 : Int32)), (.int (0 : Int32))] (.int (0 : Int32))) (hge : n0 ≤ a0) (sA : Sta Z h0 "java/lang/StringUTF16" "$assertionsDisabled" "Z" (.int (1 : Int32))) (sH : Sta Z h0 "java/lang/StringUTF16" "HI_BYTE_SHIFT" "I" (.int (0 : Int32))) (sL : Sta Z h0 "java/lang/StringUTF16" "LO_BYTE_SHIFT" "I" (.int (8 : Int32))) :
    own_Met l mN19 jdk_52_method_4_code 3 none ws ({ frames := 0, cells := 0, slots := 0, locals := 0 } : Room) #[(.ref a0), (.int 1), (.int cc)] Z h0 (QrmPut_3_1 Z a0 ka cc c0 h0 n0) := by
  refine MetFree.of_bodySF (plainFor_of_name pn_StringUTF16) hisR ?_
  intro p e s m args below meth c s₁ Bd hml0 hP hK
  obtain ⟨rfl, hZ, hh⟩ := hP
  have hml : c.maxLocals = 3 := hml0
  obtain ⟨hx, hby, hown, hnm, X0, e0⟩ := own_start Bd hml0 hh
  have N0 := Fr.nil n0
  have pre0 : ∀ t, oS p e below s₁ (mkF m 0 #[rv a0, iv 1, iv cc] []) t → Steps p.tables e below (s₁.setTop (entryFrame m #[(.ref a0), (.int 1), (.int cc)] 3)) t := fun t k => castTop (by first | (simp [entryFrame, mkF, argsToLocals, Value.category]; done) | rfl) k
  obtain ⟨T1, X1, e1, st1⟩ := getS2 X0 hx hZ hown (host := "") (Or.inl (hw _ (own_w 91 rfl))) Via.refl e0 sA (g := (mkF m 0 #[rv a0, iv 1, iv cc] [])) rfl (hb hby d20_0)
  obtain ⟨T2, X2, e2, st2⟩ := getS2 X1 hx hZ hown (host := "") (Or.inl (hw _ (own_w 92 rfl))) Via.refl e1 sH (g := (mkF m 38 #[rv a0, iv 3, iv cc] [(.int cc), (.int 2), (.ref a0)])) rfl (hb hby d20_38)
  obtain ⟨cl3, Ar3, qk3, Sz3, Ng3, Hs3, Gs3⟩ := id hA
  have hin3 : ¬ ((2 : Int32) < 0 ∨ cl3.slots.size ≤ ((2 : Int32)).toNatClampNeg) := inb_of Sz3 ⟨by decide, by decide⟩
  obtain ⟨T4, h4, X4, e4, W4, st4⟩ := stB X2 hx hZ e2 Ar3 (j := (2 : Int32)) hin3 (g := (mkF m 43 #[rv a0, iv 3, iv cc] [(.int ((cc >>> ((0 : Int32) &&& 31))).toInt8.toInt32), (.int 2), (.ref a0)])) rfl rfl (hb hby d20_43)
  have N4 := Fr.snoc X4 N0 hge
  have Z4 : n0 ≤ h4.size := Nat.le_trans Z0 (Nat.le_of_eq W4.size.symm)
  have K4 : Keep h0 h4 [a0] := (Keep.refl h0 [a0]).wr W4 (Or.inl (List.mem_of_getElem? (i := 0) rfl))
  have V4 : Arv Z h4 a0 ka .byte (6 : Int32) [(.int (own_lo c0)), (.int (own_hi c0)), (.int (nar .byte ((cc >>> ((0 : Int32) &&& 31))).toInt8.toInt32)), (.int (0 : Int32)), (.int (0 : Int32)), (.int (0 : Int32))] (.int (0 : Int32)) := Arv.set Ar3 qk3 Sz3 Ng3 Hs3 Gs3 (fits_nar_byte _) W4 2 rfl (Nat.le_of_ble_eq_true rfl)
  have f5 := (sL.wr W4)
  obtain ⟨T6, X6, e6, st6⟩ := getS2 X4 hx hZ hown (host := "") (Or.inl (hw _ (own_w 93 rfl))) Via.refl e4 f5 (g := (mkF m 47 #[rv a0, iv 3, iv cc] [(.int cc), (.int 3), (.ref a0)])) rfl (hb hby d20_47)
  obtain ⟨cl7, Ar7, qk7, Sz7, Ng7, Hs7, Gs7⟩ := id V4
  have hin7 : ¬ ((3 : Int32) < 0 ∨ cl7.slots.size ≤ ((3 : Int32)).toNatClampNeg) := inb_of Sz7 ⟨by decide, by decide⟩
  obtain ⟨T8, h8, X8, e8, W8, st8⟩ := stB X6 hx hZ e6 Ar7 (j := (3 : Int32)) hin7 (g := (mkF m 52 #[rv a0, iv 3, iv cc] [(.int ((cc >>> ((8 : Int32) &&& 31))).toInt8.toInt32), (.int 3), (.ref a0)])) rfl rfl (hb hby d20_52)
  have N8 := Fr.snoc X8 N4 hge
  have Z8 : n0 ≤ h8.size := Nat.le_trans Z4 (Nat.le_of_eq W8.size.symm)
  have K8 : Keep h0 h8 [a0] := K4.wr W8 (Or.inl (List.mem_of_getElem? (i := 0) rfl))
  have V8 : Arv Z h8 a0 ka .byte (6 : Int32) [(.int (own_lo c0)), (.int (own_hi c0)), (.int (nar .byte ((cc >>> ((0 : Int32) &&& 31))).toInt8.toInt32)), (.int (nar .byte ((cc >>> ((8 : Int32) &&& 31))).toInt8.toInt32)), (.int (0 : Int32)), (.int (0 : Int32))] (.int (0 : Int32)) := Arv.set Ar7 qk7 Sz7 Ng7 Hs7 Gs7 (fits_nar_byte _) W8 3 rfl (Nat.le_of_ble_eq_true rfl)
  have S9 : ∀ t, oS p e below T8 (mkF m 53 #[rv a0, iv 3, iv cc] []) t → oS p e below s₁ (mkF m 0 #[rv a0, iv 1, iv cc] []) t := fun t k => id (by
    show oS p e below s₁ (mkF m 0 #[rv a0, iv 1, iv cc] []) _
    refine st1 _ ?_
    refine XS.ifYes X1.here hx rfl (pc0 := 3) (pc' := 28) rfl (hb hby d20_3) rfl (XT.i0_ne_t (by decide)) (by decide) (by decide) ?_
    refine XS.iloadN X1.here hx rfl (hb hby d20_28) rfl ?_
    refine XT.iconstV X1.here hx rfl (1 : Int32) (hb hby d20_29) (by decide) ?_
    refine XT.ishl X1.here hx rfl (hb hby d20_30) rfl ?_
    refine XS.istoreN X1.here hx rfl (hb hby d20_31) rfl (l' := #[rv a0, iv 2, iv cc]) rfl ?_
    refine XS.aloadN X1.here hx rfl (hb hby d20_32) rfl rfl ?_
    refine XS.iloadN X1.here hx rfl (hb hby d20_33) rfl ?_
    refine XT.iincV X1.here hx rfl (1 : Int32) (hb hby d20_34) (by decide) rfl (l' := #[rv a0, iv 3, iv cc]) rfl ?_
    refine XS.iloadN X1.here hx rfl (hb hby d20_37) rfl ?_
    refine st2 _ ?_
    refine XT.ishr X2.here hx rfl (hb hby d20_41) rfl ?_
    refine XT.i2b X2.here hx rfl (hb hby d20_42) rfl ?_
    refine st4 _ ?_
    refine XS.aloadN X4.here hx rfl (hb hby d20_44) rfl rfl ?_
    refine XS.iloadN X4.here hx rfl (hb hby d20_45) rfl ?_
    refine XS.iloadN X4.here hx rfl (hb hby d20_46) rfl ?_
    refine st6 _ ?_
    refine XT.ishr X6.here hx rfl (hb hby d20_50) rfl ?_
    refine XT.i2b X6.here hx rfl (hb hby d20_51) rfl ?_
    show oS p e below T6 (mkF m 52 #[rv a0, iv 3, iv cc] [(.int ((cc >>> ((8 : Int32) &&& 31))).toInt8.toInt32), (.int 3), (.ref a0)]) _
    refine st8 _ ?_
    exact k)
  obtain ⟨fs, hr, hrun, hended, hW, hsame⟩ := X8.leave (v := none) (fun _ => rfl)
  refine ⟨_, _, pre0 _ (S9 _ ?_), hrun, hended, _, _, rfl, ?_, ⟨_, rfl⟩, hW, hsame.mono (by decide) (by decide)⟩
  · exact X8.returnOut hx Bd.returns (hb hby d20_53) hr
  · show QrmPut_3_1 Z a0 ka cc c0 h0 n0 _ T8.heap _
    rw [e8]
    exact ⟨rfl, N8, K8, V8⟩
def QrmPut_3_2 (Z : State) (a0 : Addr) (ka : ClassId) (cc : Int32) (c0 : Int32) (c1 : Int32) (h0 : Heap) (n0 : Nat) (v : Option Value) (h : Heap) (L : List Loc) : Prop := v = none ∧ Fr n0 L ∧ Keep h0 h [a0] ∧ Arv Z h a0 ka .byte (6 : Int32) [(.int (own_lo c0)), (.int (own_hi c0)), (.int (own_lo c1)), (.int (own_hi c1)), (.int (own_lo cc)), (.int (own_hi cc))] (.int (0 : Int32))
set_option maxRecDepth 65536 in
set_option maxHeartbeats 40000000 in
theorem rmPut_3_2 (l : Launch) (Z : State) (av0 : Array Value) (hw : ∀ d ∈ tables_1, d.before av0 Z = true) (ws : List Jvm.Cond) (a0 : Addr) (ka : ClassId) (cc : Int32) (c0 : Int32) (c1 : Int32) (h0 : Heap) (n0 : Nat) (Z0 : n0 ≤ h0.size) (hA : Arv Z h0 a0 ka .byte (6 : Int32) [(.int (own_lo c0)), (.int (own_hi c0)), (.int (own_lo c1)), (.int (own_hi c1)), (.int (0 : Int32)), (.int (0 : Int32))] (.int (0 : Int32))) (hge : n0 ≤ a0) (sA : Sta Z h0 "java/lang/StringUTF16" "$assertionsDisabled" "Z" (.int (1 : Int32))) (sH : Sta Z h0 "java/lang/StringUTF16" "HI_BYTE_SHIFT" "I" (.int (0 : Int32))) (sL : Sta Z h0 "java/lang/StringUTF16" "LO_BYTE_SHIFT" "I" (.int (8 : Int32))) :
    own_Met l mN19 jdk_52_method_4_code 3 none ws ({ frames := 0, cells := 0, slots := 0, locals := 0 } : Room) #[(.ref a0), (.int 2), (.int cc)] Z h0 (QrmPut_3_2 Z a0 ka cc c0 c1 h0 n0) := by
  refine MetFree.of_bodySF (plainFor_of_name pn_StringUTF16) hisR ?_
  intro p e s m args below meth c s₁ Bd hml0 hP hK
  obtain ⟨rfl, hZ, hh⟩ := hP
  have hml : c.maxLocals = 3 := hml0
  obtain ⟨hx, hby, hown, hnm, X0, e0⟩ := own_start Bd hml0 hh
  have N0 := Fr.nil n0
  have pre0 : ∀ t, oS p e below s₁ (mkF m 0 #[rv a0, iv 2, iv cc] []) t → Steps p.tables e below (s₁.setTop (entryFrame m #[(.ref a0), (.int 2), (.int cc)] 3)) t := fun t k => castTop (by first | (simp [entryFrame, mkF, argsToLocals, Value.category]; done) | rfl) k
  obtain ⟨T1, X1, e1, st1⟩ := getS2 X0 hx hZ hown (host := "") (Or.inl (hw _ (own_w 91 rfl))) Via.refl e0 sA (g := (mkF m 0 #[rv a0, iv 2, iv cc] [])) rfl (hb hby d20_0)
  obtain ⟨T2, X2, e2, st2⟩ := getS2 X1 hx hZ hown (host := "") (Or.inl (hw _ (own_w 92 rfl))) Via.refl e1 sH (g := (mkF m 38 #[rv a0, iv 5, iv cc] [(.int cc), (.int 4), (.ref a0)])) rfl (hb hby d20_38)
  obtain ⟨cl3, Ar3, qk3, Sz3, Ng3, Hs3, Gs3⟩ := id hA
  have hin3 : ¬ ((4 : Int32) < 0 ∨ cl3.slots.size ≤ ((4 : Int32)).toNatClampNeg) := inb_of Sz3 ⟨by decide, by decide⟩
  obtain ⟨T4, h4, X4, e4, W4, st4⟩ := stB X2 hx hZ e2 Ar3 (j := (4 : Int32)) hin3 (g := (mkF m 43 #[rv a0, iv 5, iv cc] [(.int ((cc >>> ((0 : Int32) &&& 31))).toInt8.toInt32), (.int 4), (.ref a0)])) rfl rfl (hb hby d20_43)
  have N4 := Fr.snoc X4 N0 hge
  have Z4 : n0 ≤ h4.size := Nat.le_trans Z0 (Nat.le_of_eq W4.size.symm)
  have K4 : Keep h0 h4 [a0] := (Keep.refl h0 [a0]).wr W4 (Or.inl (List.mem_of_getElem? (i := 0) rfl))
  have V4 : Arv Z h4 a0 ka .byte (6 : Int32) [(.int (own_lo c0)), (.int (own_hi c0)), (.int (own_lo c1)), (.int (own_hi c1)), (.int (nar .byte ((cc >>> ((0 : Int32) &&& 31))).toInt8.toInt32)), (.int (0 : Int32))] (.int (0 : Int32)) := Arv.set Ar3 qk3 Sz3 Ng3 Hs3 Gs3 (fits_nar_byte _) W4 4 rfl (Nat.le_of_ble_eq_true rfl)
  have f5 := (sL.wr W4)
  obtain ⟨T6, X6, e6, st6⟩ := getS2 X4 hx hZ hown (host := "") (Or.inl (hw _ (own_w 93 rfl))) Via.refl e4 f5 (g := (mkF m 47 #[rv a0, iv 5, iv cc] [(.int cc), (.int 5), (.ref a0)])) rfl (hb hby d20_47)
  obtain ⟨cl7, Ar7, qk7, Sz7, Ng7, Hs7, Gs7⟩ := id V4
  have hin7 : ¬ ((5 : Int32) < 0 ∨ cl7.slots.size ≤ ((5 : Int32)).toNatClampNeg) := inb_of Sz7 ⟨by decide, by decide⟩
  obtain ⟨T8, h8, X8, e8, W8, st8⟩ := stB X6 hx hZ e6 Ar7 (j := (5 : Int32)) hin7 (g := (mkF m 52 #[rv a0, iv 5, iv cc] [(.int ((cc >>> ((8 : Int32) &&& 31))).toInt8.toInt32), (.int 5), (.ref a0)])) rfl rfl (hb hby d20_52)
  have N8 := Fr.snoc X8 N4 hge
  have Z8 : n0 ≤ h8.size := Nat.le_trans Z4 (Nat.le_of_eq W8.size.symm)
  have K8 : Keep h0 h8 [a0] := K4.wr W8 (Or.inl (List.mem_of_getElem? (i := 0) rfl))
  have V8 : Arv Z h8 a0 ka .byte (6 : Int32) [(.int (own_lo c0)), (.int (own_hi c0)), (.int (own_lo c1)), (.int (own_hi c1)), (.int (nar .byte ((cc >>> ((0 : Int32) &&& 31))).toInt8.toInt32)), (.int (nar .byte ((cc >>> ((8 : Int32) &&& 31))).toInt8.toInt32))] (.int (0 : Int32)) := Arv.set Ar7 qk7 Sz7 Ng7 Hs7 Gs7 (fits_nar_byte _) W8 5 rfl (Nat.le_of_ble_eq_true rfl)
  have S9 : ∀ t, oS p e below T8 (mkF m 53 #[rv a0, iv 5, iv cc] []) t → oS p e below s₁ (mkF m 0 #[rv a0, iv 2, iv cc] []) t := fun t k => id (by
    show oS p e below s₁ (mkF m 0 #[rv a0, iv 2, iv cc] []) _
    refine st1 _ ?_
    refine XS.ifYes X1.here hx rfl (pc0 := 3) (pc' := 28) rfl (hb hby d20_3) rfl (XT.i0_ne_t (by decide)) (by decide) (by decide) ?_
    refine XS.iloadN X1.here hx rfl (hb hby d20_28) rfl ?_
    refine XT.iconstV X1.here hx rfl (1 : Int32) (hb hby d20_29) (by decide) ?_
    refine XT.ishl X1.here hx rfl (hb hby d20_30) rfl ?_
    refine XS.istoreN X1.here hx rfl (hb hby d20_31) rfl (l' := #[rv a0, iv 4, iv cc]) rfl ?_
    refine XS.aloadN X1.here hx rfl (hb hby d20_32) rfl rfl ?_
    refine XS.iloadN X1.here hx rfl (hb hby d20_33) rfl ?_
    refine XT.iincV X1.here hx rfl (1 : Int32) (hb hby d20_34) (by decide) rfl (l' := #[rv a0, iv 5, iv cc]) rfl ?_
    refine XS.iloadN X1.here hx rfl (hb hby d20_37) rfl ?_
    refine st2 _ ?_
    refine XT.ishr X2.here hx rfl (hb hby d20_41) rfl ?_
    refine XT.i2b X2.here hx rfl (hb hby d20_42) rfl ?_
    refine st4 _ ?_
    refine XS.aloadN X4.here hx rfl (hb hby d20_44) rfl rfl ?_
    refine XS.iloadN X4.here hx rfl (hb hby d20_45) rfl ?_
    refine XS.iloadN X4.here hx rfl (hb hby d20_46) rfl ?_
    refine st6 _ ?_
    refine XT.ishr X6.here hx rfl (hb hby d20_50) rfl ?_
    refine XT.i2b X6.here hx rfl (hb hby d20_51) rfl ?_
    show oS p e below T6 (mkF m 52 #[rv a0, iv 5, iv cc] [(.int ((cc >>> ((8 : Int32) &&& 31))).toInt8.toInt32), (.int 5), (.ref a0)]) _
    refine st8 _ ?_
    exact k)
  obtain ⟨fs, hr, hrun, hended, hW, hsame⟩ := X8.leave (v := none) (fun _ => rfl)
  refine ⟨_, _, pre0 _ (S9 _ ?_), hrun, hended, _, _, rfl, ?_, ⟨_, rfl⟩, hW, hsame.mono (by decide) (by decide)⟩
  · exact X8.returnOut hx Bd.returns (hb hby d20_53) hr
  · show QrmPut_3_2 Z a0 ka cc c0 c1 h0 n0 _ T8.heap _
    rw [e8]
    exact ⟨rfl, N8, K8, V8⟩
def QrmTb_3 (Z : State) (a0 : Addr) (ka : ClassId) (c0 : Int32) (c1 : Int32) (c2 : Int32) (h0 : Heap) (n0 : Nat) (v : Option Value) (h : Heap) (L : List Loc) : Prop := ∃ (b : Addr) (k : ClassId), v = some (.ref b) ∧ Fr n0 L ∧ h0.size ≤ b ∧ Keep h0 h [] ∧ Arv Z h b k .byte (6 : Int32) [(.int (own_lo c0)), (.int (own_hi c0)), (.int (own_lo c1)), (.int (own_hi c1)), (.int (own_lo c2)), (.int (own_hi c2))] (.int (0 : Int32))
set_option maxRecDepth 65536 in
set_option maxHeartbeats 40000000 in
theorem rmTb_3 (l : Launch) (Z : State) (av0 : Array Value) (hw : ∀ d ∈ tables_1, d.before av0 Z = true) (ws : List Jvm.Cond) (a0 : Addr) (ka : ClassId) (c0 : Int32) (c1 : Int32) (c2 : Int32) (h0 : Heap) (n0 : Nat) (Z0 : n0 ≤ h0.size) (hA : Arv Z h0 a0 ka .char (3 : Int32) [(.int c0), (.int c1), (.int c2)] (.int (0 : Int32))) (sA : Sta Z h0 "java/lang/StringUTF16" "$assertionsDisabled" "Z" (.int (1 : Int32))) (sH : Sta Z h0 "java/lang/StringUTF16" "HI_BYTE_SHIFT" "I" (.int (0 : Int32))) (sL : Sta Z h0 "java/lang/StringUTF16" "LO_BYTE_SHIFT" "I" (.int (8 : Int32))) :
    own_Met l mN20 jdk_52_method_14_code 5 (some (.array .byte)) ws ({ frames := 2, cells := 1, slots := 6, locals := 24 } : Room) #[(.ref a0), (.int 0), (.int 3)] Z h0 (QrmTb_3 Z a0 ka c0 c1 c2 h0 n0) := by
  refine MetFree.of_bodySF (plainFor_of_name pn_StringUTF16) hisR ?_
  intro p e s m args below meth c s₁ Bd hml0 hP hK
  obtain ⟨rfl, hZ, hh⟩ := hP
  have hml : c.maxLocals = 5 := hml0
  obtain ⟨hx, hby, hown, hnm, X0, e0⟩ := own_start Bd hml0 hh
  have N0 := Fr.nil n0
  have pre0 : ∀ t, oS p e below s₁ (mkF m 0 #[rv a0, iv 0, iv 3, .unset, .unset] []) t → Steps p.tables e below (s₁.setTop (entryFrame m #[(.ref a0), (.int 0), (.int 3)] 5)) t := fun t k => castTop (by first | (simp [entryFrame, mkF, argsToLocals, Value.category]; done) | rfl) k
  obtain ⟨_, T1, Lc1, X1, hQ1, st1⟩ := own_callS (W := 0) (y := mN18) X0 hx hZ hown (hw _ (own_w 81 rfl)) (hw _ (own_w 82 rfl)) (hw _ (own_w 40 rfl)) (hw _ (own_w 83 rfl)) (by decide) (rmNbf_3 l Z av0 hw []  h0 n0 Z0 ) (by decide) (by decide) (g := (mkF m 1 #[rv a0, iv 0, iv 3, .unset, .unset] [(.int 3)])) rfl (by rw [hml]; rfl) (argsL := [(.int 3)]) (rest := []) (lenOf pd__I_B rfl) rfl (hb hby d17_1) rfl e0 (by decide : 0 + 1 ≤ _) (by decide : 0 + 6 ≤ _)
  obtain ⟨b1, kb1, rfl, N1q, gb1, K1, V1⟩ := hQ1
  have N1 := Fr.app N0 N1q
  have e1 : T1.heap = T1.heap := rfl
  have ne_a0_b1 : a0 ≠ b1 := Nat.ne_of_lt (Nat.lt_of_lt_of_le hA.lt gb1)
  have ge_b1 : n0 ≤ b1 := Nat.le_trans Z0 gb1
  have sz_b1 : h0.size ≤ b1 := gb1
  have Zk1 : n0 ≤ T1.heap.size := Nat.le_trans Z0 K1.1
  have Kk1 : Keep h0 T1.heap [] := (Keep.refl h0 []).trans K1 all0
  have f2 := (hA.keep K1 nin0)
  obtain ⟨cl3, Ar3, qk3, Sz3, Ng3, Hs3, Gs3⟩ := id f2
  have hin3 : ¬ ((0 : Int32) < 0 ∨ cl3.slots.size ≤ ((0 : Int32)).toNatClampNeg) := inb_of Sz3 ⟨by decide, by decide⟩
  have hat3 : cl3.slots[((0 : Int32)).toNatClampNeg]? = some (.int c0) := Hs3.at hin3 rfl
  have f4 := (own_stak sA K1 all0)
  have f5 := (own_stak sH K1 all0)
  have f6 := (own_stak sL K1 all0)
  obtain ⟨_, T7, Lc7, X7, hQ7, st7⟩ := own_callS (W := 0) (y := mN19) X1 hx hZ hown (hw _ (own_w 88 rfl)) (hw _ (own_w 89 rfl)) (hw _ (own_w 40 rfl)) (hw _ (own_w 90 rfl)) (by decide) (rmPut_3_0 l Z av0 hw [] b1 kb1 c0  T1.heap n0 Zk1 V1 ge_b1 f4 f5 f6) (by decide) (by decide) (g := (mkF m 20 #[rv a0, iv 0, iv 3, rv b1, iv 0] [(.int c0), (.int 0), (.ref b1)])) rfl (by rw [hml]; rfl) (argsL := [(.ref b1), (.int 0), (.int c0)]) (rest := []) (lenOf pd__BII_V rfl) rfl (hb hby d17_20) rfl e1 (by decide : 1 + 0 ≤ _) (by decide : 6 + 0 ≤ _)
  obtain ⟨rfl, N7q, K7, V7⟩ := hQ7
  have N7 := Fr.app N1 N7q
  have e7 : T7.heap = T7.heap := rfl
  have Zk7 : n0 ≤ T7.heap.size := Nat.le_trans Zk1 K7.1
  have Kk7 : Keep h0 T7.heap [] := Kk1.trans K7 (allS (Or.inr sz_b1) all0)
  have f8 := (f2.keep K7 (ninS ne_a0_b1 nin0))
  obtain ⟨cl9, Ar9, qk9, Sz9, Ng9, Hs9, Gs9⟩ := id f8
  have hin9 : ¬ ((1 : Int32) < 0 ∨ cl9.slots.size ≤ ((1 : Int32)).toNatClampNeg) := inb_of Sz9 ⟨by decide, by decide⟩
  have hat9 : cl9.slots[((1 : Int32)).toNatClampNeg]? = some (.int c1) := Hs9.at hin9 rfl
  have f10 := (own_stak f4 K7 (allS (own_arns V1) all0))
  have f11 := (own_stak f5 K7 (allS (own_arns V1) all0))
  have f12 := (own_stak f6 K7 (allS (own_arns V1) all0))
  obtain ⟨_, T13, Lc13, X13, hQ13, st13⟩ := own_callS (W := 0) (y := mN19) X7 hx hZ hown (hw _ (own_w 88 rfl)) (hw _ (own_w 89 rfl)) (hw _ (own_w 40 rfl)) (hw _ (own_w 90 rfl)) (by decide) (rmPut_3_1 l Z av0 hw [] b1 kb1 c1 c0 T7.heap n0 Zk7 V7 ge_b1 f10 f11 f12) (by decide) (by decide) (g := (mkF m 20 #[rv a0, iv 1, iv 3, rv b1, iv 1] [(.int c1), (.int 1), (.ref b1)])) rfl (by rw [hml]; rfl) (argsL := [(.ref b1), (.int 1), (.int c1)]) (rest := []) (lenOf pd__BII_V rfl) rfl (hb hby d17_20) rfl e7 (by decide : 1 + 0 ≤ _) (by decide : 6 + 0 ≤ _)
  obtain ⟨rfl, N13q, K13, V13⟩ := hQ13
  have N13 := Fr.app N7 N13q
  have e13 : T13.heap = T13.heap := rfl
  have Zk13 : n0 ≤ T13.heap.size := Nat.le_trans Zk7 K13.1
  have Kk13 : Keep h0 T13.heap [] := Kk7.trans K13 (allS (Or.inr sz_b1) all0)
  have f14 := (f8.keep K13 (ninS ne_a0_b1 nin0))
  obtain ⟨cl15, Ar15, qk15, Sz15, Ng15, Hs15, Gs15⟩ := id f14
  have hin15 : ¬ ((2 : Int32) < 0 ∨ cl15.slots.size ≤ ((2 : Int32)).toNatClampNeg) := inb_of Sz15 ⟨by decide, by decide⟩
  have hat15 : cl15.slots[((2 : Int32)).toNatClampNeg]? = some (.int c2) := Hs15.at hin15 rfl
  have f16 := (own_stak f10 K13 (allS (own_arns V7) all0))
  have f17 := (own_stak f11 K13 (allS (own_arns V7) all0))
  have f18 := (own_stak f12 K13 (allS (own_arns V7) all0))
  obtain ⟨_, T19, Lc19, X19, hQ19, st19⟩ := own_callS (W := 0) (y := mN19) X13 hx hZ hown (hw _ (own_w 88 rfl)) (hw _ (own_w 89 rfl)) (hw _ (own_w 40 rfl)) (hw _ (own_w 90 rfl)) (by decide) (rmPut_3_2 l Z av0 hw [] b1 kb1 c2 c0 c1 T13.heap n0 Zk13 V13 ge_b1 f16 f17 f18) (by decide) (by decide) (g := (mkF m 20 #[rv a0, iv 2, iv 3, rv b1, iv 2] [(.int c2), (.int 2), (.ref b1)])) rfl (by rw [hml]; rfl) (argsL := [(.ref b1), (.int 2), (.int c2)]) (rest := []) (lenOf pd__BII_V rfl) rfl (hb hby d17_20) rfl e13 (by decide : 1 + 0 ≤ _) (by decide : 6 + 0 ≤ _)
  obtain ⟨rfl, N19q, K19, V19⟩ := hQ19
  have N19 := Fr.app N13 N19q
  have e19 : T19.heap = T19.heap := rfl
  have Zk19 : n0 ≤ T19.heap.size := Nat.le_trans Zk13 K19.1
  have Kk19 : Keep h0 T19.heap [] := Kk13.trans K19 (allS (Or.inr sz_b1) all0)
  have S20 : ∀ t, oS p e below T19 (mkF m 33 #[rv a0, iv 3, iv 3, rv b1, iv 3] [(.ref b1)]) t → oS p e below s₁ (mkF m 0 #[rv a0, iv 0, iv 3, .unset, .unset] []) t := fun t k => id (by
    show oS p e below s₁ (mkF m 0 #[rv a0, iv 0, iv 3, .unset, .unset] []) _
    refine XS.iloadN X0.here hx rfl (hb hby d17_0) rfl ?_
    refine st1 _ ?_
    refine XS.astoreN X1.here hx rfl (hb hby d17_4) rfl rfl (l' := #[rv a0, iv 0, iv 3, rv b1, .unset]) rfl ?_
    refine XT.iconstV X1.here hx rfl (0 : Int32) (hb hby d17_5) (by decide) ?_
    refine XS.istore X1.here hx rfl (hb hby d17_6) rfl (l' := #[rv a0, iv 0, iv 3, rv b1, iv 0]) rfl ?_
    refine XS.iload X1.here hx rfl (hb hby d17_8) rfl ?_
    refine XS.iloadN X1.here hx rfl (hb hby d17_10) rfl ?_
    refine XS.icmpNo X1.here hx rfl (hb hby d17_11) rfl (XT.ii_ge_f (by decide)) ?_
    refine XS.aloadN X1.here hx rfl (hb hby d17_14) rfl rfl ?_
    refine XS.iload X1.here hx rfl (hb hby d17_15) rfl ?_
    refine XS.aloadN X1.here hx rfl (hb hby d17_17) rfl rfl ?_
    refine XS.iloadN X1.here hx rfl (hb hby d17_18) rfl ?_
    refine X1.caload hx (j := (0 : Int32)) (v := (.int c0)) (by rw [e1]; exact Ar3.1) (State.isArrayOf_alike hZ.alike Ar3.2.1) Ar3.2.2 hin3 hat3 (g := (mkF m 19 #[rv a0, iv 0, iv 3, rv b1, iv 0] [(.int 0), (.ref a0), (.int 0), (.ref b1)])) rfl rfl (hb hby d17_19) _ ?_
    refine st7 _ ?_
    refine XT.iincV X7.here hx rfl (1 : Int32) (hb hby d17_23) (by decide) rfl (l' := #[rv a0, iv 1, iv 3, rv b1, iv 0]) rfl ?_
    refine XT.iincV X7.here hx rfl (1 : Int32) (hb hby d17_26) (by decide) rfl (l' := #[rv a0, iv 1, iv 3, rv b1, iv 1]) rfl ?_
    refine XS.goto X7.here hx rfl (pc0 := 29) (pc' := 8) rfl (hb hby d17_29) (by decide) (by decide) ?_
    refine XS.iload X7.here hx rfl (hb hby d17_8) rfl ?_
    refine XS.iloadN X7.here hx rfl (hb hby d17_10) rfl ?_
    refine XS.icmpNo X7.here hx rfl (hb hby d17_11) rfl (XT.ii_ge_f (by decide)) ?_
    show oS p e below T7 (mkF m 14 #[rv a0, iv 1, iv 3, rv b1, iv 1] []) _
    refine XS.aloadN X7.here hx rfl (hb hby d17_14) rfl rfl ?_
    refine XS.iload X7.here hx rfl (hb hby d17_15) rfl ?_
    refine XS.aloadN X7.here hx rfl (hb hby d17_17) rfl rfl ?_
    refine XS.iloadN X7.here hx rfl (hb hby d17_18) rfl ?_
    refine X7.caload hx (j := (1 : Int32)) (v := (.int c1)) (by rw [e7]; exact Ar9.1) (State.isArrayOf_alike hZ.alike Ar9.2.1) Ar9.2.2 hin9 hat9 (g := (mkF m 19 #[rv a0, iv 1, iv 3, rv b1, iv 1] [(.int 1), (.ref a0), (.int 1), (.ref b1)])) rfl rfl (hb hby d17_19) _ ?_
    refine st13 _ ?_
    refine XT.iincV X13.here hx rfl (1 : Int32) (hb hby d17_23) (by decide) rfl (l' := #[rv a0, iv 2, iv 3, rv b1, iv 1]) rfl ?_
    refine XT.iincV X13.here hx rfl (1 : Int32) (hb hby d17_26) (by decide) rfl (l' := #[rv a0, iv 2, iv 3, rv b1, iv 2]) rfl ?_
    refine XS.goto X13.here hx rfl (pc0 := 29) (pc' := 8) rfl (hb hby d17_29) (by decide) (by decide) ?_
    refine XS.iload X13.here hx rfl (hb hby d17_8) rfl ?_
    refine XS.iloadN X13.here hx rfl (hb hby d17_10) rfl ?_
    refine XS.icmpNo X13.here hx rfl (hb hby d17_11) rfl (XT.ii_ge_f (by decide)) ?_
    refine XS.aloadN X13.here hx rfl (hb hby d17_14) rfl rfl ?_
    refine XS.iload X13.here hx rfl (hb hby d17_15) rfl ?_
    refine XS.aloadN X13.here hx rfl (hb hby d17_17) rfl rfl ?_
    refine XS.iloadN X13.here hx rfl (hb hby d17_18) rfl ?_
    refine X13.caload hx (j := (2 : Int32)) (v := (.int c2)) (by rw [e13]; exact Ar15.1) (State.isArrayOf_alike hZ.alike Ar15.2.1) Ar15.2.2 hin15 hat15 (g := (mkF m 19 #[rv a0, iv 2, iv 3, rv b1, iv 2] [(.int 2), (.ref a0), (.int 2), (.ref b1)])) rfl rfl (hb hby d17_19) _ ?_
    refine st19 _ ?_
    refine XT.iincV X19.here hx rfl (1 : Int32) (hb hby d17_23) (by decide) rfl (l' := #[rv a0, iv 3, iv 3, rv b1, iv 2]) rfl ?_
    refine XT.iincV X19.here hx rfl (1 : Int32) (hb hby d17_26) (by decide) rfl (l' := #[rv a0, iv 3, iv 3, rv b1, iv 3]) rfl ?_
    show oS p e below T19 (mkF m 29 #[rv a0, iv 3, iv 3, rv b1, iv 3] []) _
    refine XS.goto X19.here hx rfl (pc0 := 29) (pc' := 8) rfl (hb hby d17_29) (by decide) (by decide) ?_
    refine XS.iload X19.here hx rfl (hb hby d17_8) rfl ?_
    refine XS.iloadN X19.here hx rfl (hb hby d17_10) rfl ?_
    refine XS.icmpYes X19.here hx rfl (pc0 := 11) (pc' := 32) rfl (hb hby d17_11) rfl (XT.ii_ge_t (by decide)) (by decide) (by decide) ?_
    refine XS.aloadN X19.here hx rfl (hb hby d17_32) rfl rfl ?_
    exact k)
  obtain ⟨fs, hr, hrun, hended, hW, hsame⟩ := X19.leave (v := some (.ref b1)) (fun h => by rw [Bd.returns] at h; cases h)
  refine ⟨_, _, pre0 _ (S20 _ ?_), hrun, hended, _, _, rfl, ?_, ⟨_, rfl⟩, hW, hsame.mono (by decide) (by decide)⟩
  · jvm_step X19.here [X19.here.top, hx, (hb hby d17_33), X19.method', Bd.returns, Value.isRef, FieldType.isReference]
    first | (intro acts; rw [hr _ acts rfl rfl rfl]) | rw [hr _ _ rfl rfl rfl]
    exact Steps.refl _
  · show QrmTb_3 Z a0 ka c0 c1 c2 h0 n0 _ T19.heap _
    rw [e19]
    exact ⟨_, _, rfl, N19, sz_b1, Kk19, V19⟩
def QrmCp3_3_0 (Z : State) (a0 : Addr) (ka : ClassId) (c0 : Int32) (c1 : Int32) (c2 : Int32) (h0 : Heap) (n0 : Nat) (v : Option Value) (h : Heap) (L : List Loc) : Prop := ∃ (b : Addr) (k : ClassId), v = some (.ref b) ∧ Fr n0 L ∧ h0.size ≤ b ∧ Keep h0 h [] ∧ Arv Z h b k .byte (6 : Int32) [(.int (own_lo c0)), (.int (own_hi c0)), (.int (own_lo c1)), (.int (own_hi c1)), (.int (own_lo c2)), (.int (own_hi c2))] (.int (0 : Int32))
set_option maxRecDepth 65536 in
set_option maxHeartbeats 40000000 in
theorem rmCp3_3_0 (l : Launch) (Z : State) (av0 : Array Value) (hw : ∀ d ∈ tables_1, d.before av0 Z = true) (ws : List Jvm.Cond) (a0 : Addr) (ka : ClassId) (c0 : Int32) (c1 : Int32) (c2 : Int32) (h0 : Heap) (n0 : Nat) (Z0 : n0 ≤ h0.size) (hA : Arv Z h0 a0 ka .char (3 : Int32) [(.int c0), (.int c1), (.int c2)] (.int (0 : Int32))) (hbg : (255 : Int32) < c0) (hg : 0 ≤ c0.toInt ∧ c0.toInt < 65536) (sA : Sta Z h0 "java/lang/StringUTF16" "$assertionsDisabled" "Z" (.int (1 : Int32))) (sH : Sta Z h0 "java/lang/StringUTF16" "HI_BYTE_SHIFT" "I" (.int (0 : Int32))) (sL : Sta Z h0 "java/lang/StringUTF16" "LO_BYTE_SHIFT" "I" (.int (8 : Int32))) :
    own_Met l mN21 jdk_52_method_16_code 6 (some (.array .byte)) ws ({ frames := 3, cells := 2, slots := 9, locals := 40 } : Room) #[(.ref a0), (.int 0), (.int 3)] Z h0 (QrmCp3_3_0 Z a0 ka c0 c1 c2 h0 n0) := by
  refine MetFree.of_bodySF (plainFor_of_name pn_StringUTF16) hisR ?_
  intro p e s m args below meth c s₁ Bd hml0 hP hK
  obtain ⟨rfl, hZ, hh⟩ := hP
  have hml : c.maxLocals = 6 := hml0
  obtain ⟨hx, hby, hown, hnm, X0, e0⟩ := own_start Bd hml0 hh
  have N0 := Fr.nil n0
  have pre0 : ∀ t, oS p e below s₁ (mkF m 0 #[rv a0, iv 0, iv 3, .unset, .unset, .unset] []) t → Steps p.tables e below (s₁.setTop (entryFrame m #[(.ref a0), (.int 0), (.int 3)] 6)) t := fun t k => castTop (by first | (simp [entryFrame, mkF, argsToLocals, Value.category]; done) | rfl) k
  obtain ⟨T1, h1, k1, X1, e1, E1, A1, st1⟩ := newP X0 hx hZ (hw _ (own_w 16 rfl)) e0 (g := (mkF m 1 #[rv a0, iv 0, iv 3, .unset, .unset, .unset] [(.int 3)])) rfl (hb hby d7_1) rfl (by decide) (cap := 3) (by decide) (by decide) (by decide) (by decide)
  obtain ⟨b1, g1⟩ : ∃ z, z = h0.size := ⟨_, rfl⟩
  rw [← g1] at A1 st1
  have ne_a0_b1 : a0 ≠ b1 := Nat.ne_of_lt (Nat.lt_of_lt_of_le hA.lt (Nat.le_of_eq g1.symm))
  have ge_b1 : n0 ≤ b1 := Nat.le_trans Z0 (Nat.le_of_eq g1.symm)
  have sz_b1 : h0.size ≤ b1 := Nat.le_of_eq g1.symm
  have Z1 : n0 ≤ h1.size := Nat.le_trans Z0 E1.1
  have K1 : Keep h0 h1 [] := (Keep.refl h0 []).ext E1
  have V1 : Arv Z h1 b1 k1 .byte (3 : Int32) [(.int (0 : Int32)), (.int (0 : Int32)), (.int (0 : Int32))] (.int (0 : Int32)) := (Arv.new A1 (by decide)).pad (pad_rep [] (.int (0 : Int32)) 3)
  have f2 := (hA.ext E1)
  obtain ⟨_, T3, Lc3, X3, hQ3, st3⟩ := own_callS (W := 0) (y := mN16) X1 hx hZ hown (hw _ (own_w 42 rfl)) (hw _ (own_w 43 rfl)) (hw _ (own_w 40 rfl)) (hw _ (own_w 44 rfl)) (by decide) (rmCp5_3_0 l Z av0 hw [] a0 b1 ka k1 c0 c1 c2 h1 n0 Z1 f2 V1 ne_a0_b1 ge_b1 hbg) (by decide) (by decide) (g := (mkF m 9 #[rv a0, iv 0, iv 3, rv b1, .unset, .unset] [(.int 3), (.int 0), (.ref b1), (.int 0), (.ref a0)])) rfl (by rw [hml]; rfl) (argsL := [(.ref a0), (.int 0), (.ref b1), (.int 0), (.int 3)]) (rest := []) (lenOf pd__CI_BII_I rfl) rfl (hb hby d7_9) rfl e1 (by decide : 1 + 0 ≤ _) (by decide : 3 + 0 ≤ _)
  obtain ⟨rfl, N3q, K3, V3⟩ := hQ3
  have N3 := Fr.app N0 N3q
  have e3 : T3.heap = T3.heap := rfl
  have Zk3 : n0 ≤ T3.heap.size := Nat.le_trans Z1 K3.1
  have Kk3 : Keep h0 T3.heap [] := K1.trans K3 (allS (Or.inr sz_b1) all0)
  have f4 := (f2.keep K3 (ninS ne_a0_b1 nin0))
  have f5 := (own_stak (sA.ext E1) K3 (allS (own_arns V1) all0))
  have f6 := (own_stak (sH.ext E1) K3 (allS (own_arns V1) all0))
  have f7 := (own_stak (sL.ext E1) K3 (allS (own_arns V1) all0))
  obtain ⟨_, T8, Lc8, X8, hQ8, st8⟩ := own_callS (W := 0) (y := mN20) X3 hx hZ hown (hw _ (own_w 78 rfl)) (hw _ (own_w 79 rfl)) (hw _ (own_w 40 rfl)) (hw _ (own_w 80 rfl)) (by decide) (rmTb_3 l Z av0 hw [] a0 ka c0 c1 c2 T3.heap n0 Zk3 f4 f5 f6 f7) (by decide) (by decide) (g := (mkF m 23 #[rv a0, iv 0, iv 3, rv b1, iv 0, .unset] [(.int 3), (.int 0), (.ref a0)])) rfl (by rw [hml]; rfl) (argsL := [(.ref a0), (.int 0), (.int 3)]) (rest := []) (lenOf pd__CII_B rfl) rfl (hb hby d7_23) rfl e3 (by decide : 1 + 1 ≤ _) (by decide : 3 + 6 ≤ _)
  obtain ⟨b8, kb8, rfl, N8q, gb8, K8, V8⟩ := hQ8
  have N8 := Fr.app N3 N8q
  have e8 : T8.heap = T8.heap := rfl
  have ne_a0_b8 : a0 ≠ b8 := Nat.ne_of_lt (Nat.lt_of_lt_of_le f4.lt gb8)
  have ne_b1_b8 : b1 ≠ b8 := Nat.ne_of_lt (Nat.lt_of_lt_of_le V3.lt gb8)
  have ge_b8 : n0 ≤ b8 := Nat.le_trans Zk3 gb8
  have sz_b8 : h0.size ≤ b8 := Nat.le_trans Kk3.1 gb8
  have Zk8 : n0 ≤ T8.heap.size := Nat.le_trans Zk3 K8.1
  have Kk8 : Keep h0 T8.heap [] := Kk3.trans K8 all0
  have f9 := (own_stak f5 K8 all0)
  have f10 := (own_stak f6 K8 all0)
  have f11 := (own_stak f7 K8 all0)
  obtain ⟨_, T12, Lc12, X12, hQ12, st12⟩ := own_callS (W := 0) (y := mN12) X8 hx hZ hown (hw _ (own_w 94 rfl)) (hw _ (own_w 95 rfl)) (hw _ (own_w 40 rfl)) (hw _ (own_w 96 rfl)) (by decide) (rmGc l Z av0 hw [] b8 kb8 (6 : Int32) [(.int (own_lo c0)), (.int (own_hi c0)), (.int (own_lo c1)), (.int (own_hi c1)), (.int (own_lo c2)), (.int (own_hi c2))] (0 : Int32) (own_lo c0) (own_hi c0) T8.heap n0 Zk8 V8 f9 f10 f11 (by decide) (by decide) rfl rfl) (by decide) (by decide) (g := (mkF m 32 #[rv a0, iv 0, iv 3, rv b1, iv 0, rv b8] [(.int 0), (.ref b8)])) rfl (by rw [hml]; rfl) (argsL := [(.ref b8), (.int 0)]) (rest := []) (lenOf pd__BI_C rfl) rfl (hb hby d7_32) rfl e8 (by decide : 2 + 0 ≤ _) (by decide : 9 + 0 ≤ _)
  obtain ⟨rfl, N12q, hh12⟩ := hQ12
  have N12 := Fr.app N8 N12q
  have e12 : T12.heap = T8.heap := hh12
  have S13 : ∀ t, oS p e below T12 (mkF m 56 #[rv a0, iv 0, iv 3, rv b1, iv 0, rv b8] [(.ref b8)]) t → oS p e below s₁ (mkF m 0 #[rv a0, iv 0, iv 3, .unset, .unset, .unset] []) t := fun t k => id (by
    show oS p e below s₁ (mkF m 0 #[rv a0, iv 0, iv 3, .unset, .unset, .unset] []) _
    refine XS.iloadN X0.here hx rfl (hb hby d7_0) rfl ?_
    refine st1 _ ?_
    refine XS.astoreN X1.here hx rfl (hb hby d7_3) rfl rfl (l' := #[rv a0, iv 0, iv 3, rv b1, .unset, .unset]) rfl ?_
    refine XS.aloadN X1.here hx rfl (hb hby d7_4) rfl rfl ?_
    refine XS.iloadN X1.here hx rfl (hb hby d7_5) rfl ?_
    refine XS.aloadN X1.here hx rfl (hb hby d7_6) rfl rfl ?_
    refine XT.iconstV X1.here hx rfl (0 : Int32) (hb hby d7_7) (by decide) ?_
    refine XS.iloadN X1.here hx rfl (hb hby d7_8) rfl ?_
    refine st3 _ ?_
    refine XS.istore X3.here hx rfl (hb hby d7_12) rfl (l' := #[rv a0, iv 0, iv 3, rv b1, iv 0, .unset]) rfl ?_
    refine XS.iload X3.here hx rfl (hb hby d7_14) rfl ?_
    refine XS.iloadN X3.here hx rfl (hb hby d7_16) rfl ?_
    refine XS.icmpNo X3.here hx rfl (hb hby d7_17) rfl (XT.ii_eq_f (by decide)) ?_
    refine XS.aloadN X3.here hx rfl (hb hby d7_20) rfl rfl ?_
    refine XS.iloadN X3.here hx rfl (hb hby d7_21) rfl ?_
    refine XS.iloadN X3.here hx rfl (hb hby d7_22) rfl ?_
    refine st8 _ ?_
    refine XS.astore X8.here hx rfl (hb hby d7_26) rfl rfl (l' := #[rv a0, iv 0, iv 3, rv b1, iv 0, rv b8]) rfl ?_
    refine XS.aload X8.here hx rfl (hb hby d7_28) rfl rfl ?_
    refine XS.iload X8.here hx rfl (hb hby d7_30) rfl ?_
    show oS p e below T8 (mkF m 32 #[rv a0, iv 0, iv 3, rv b1, iv 0, rv b8] [(.int 0), (.ref b8)]) _
    refine st12 _ ?_
    refine XT.sipushV X12.here hx rfl (255 : Int32) (hb hby d7_35) (by decide) ?_
    refine XS.icmpYes X12.here hx rfl (pc0 := 38) (pc' := 54) rfl (hb hby d7_38) rfl (XT.ii_gt_t (by rw [own_gcv c0 hg.1 hg.2]; exact hbg)) (by decide) (by decide) ?_
    refine XS.aload X12.here hx rfl (hb hby d7_54) rfl rfl ?_
    exact k)
  obtain ⟨fs, hr, hrun, hended, hW, hsame⟩ := X12.leave (v := some (.ref b8)) (fun h => by rw [Bd.returns] at h; cases h)
  refine ⟨_, _, pre0 _ (S13 _ ?_), hrun, hended, _, _, rfl, ?_, ⟨_, rfl⟩, hW, hsame.mono (by decide) (by decide)⟩
  · jvm_step X12.here [X12.here.top, hx, (hb hby d7_56), X12.method', Bd.returns, Value.isRef, FieldType.isReference]
    first | (intro acts; rw [hr _ acts rfl rfl rfl]) | rw [hr _ _ rfl rfl rfl]
    exact Steps.refl _
  · show QrmCp3_3_0 Z a0 ka c0 c1 c2 h0 n0 _ T12.heap _
    rw [e12]
    exact ⟨_, _, rfl, N12, sz_b8, Kk8, V8⟩
def QrmCp5_3_1 (Z : State) (a0 : Addr) (a2 : Addr) (ka : ClassId) (kb : ClassId) (c0 : Int32) (c1 : Int32) (c2 : Int32) (h0 : Heap) (n0 : Nat) (v : Option Value) (h : Heap) (L : List Loc) : Prop := v = some (.int (1 : Int32)) ∧ Fr n0 L ∧ Keep h0 h [a2] ∧ Arv Z h a2 kb .byte (3 : Int32) [(.int (own_b c0)), (.int (0 : Int32)), (.int (0 : Int32))] (.int (0 : Int32))
set_option maxRecDepth 65536 in
set_option maxHeartbeats 40000000 in
theorem rmCp5_3_1 (l : Launch) (Z : State) (av0 : Array Value) (hw : ∀ d ∈ tables_1, d.before av0 Z = true) (ws : List Jvm.Cond) (a0 : Addr) (a2 : Addr) (ka : ClassId) (kb : ClassId) (c0 : Int32) (c1 : Int32) (c2 : Int32) (h0 : Heap) (n0 : Nat) (Z0 : n0 ≤ h0.size) (hA : Arv Z h0 a0 ka .char (3 : Int32) [(.int c0), (.int c1), (.int c2)] (.int (0 : Int32))) (hB : Arv Z h0 a2 kb .byte (3 : Int32) [(.int (0 : Int32)), (.int (0 : Int32)), (.int (0 : Int32))] (.int (0 : Int32))) (hne : a0 ≠ a2) (hge : n0 ≤ a2) (hc0 : ¬ (255 : Int32) < c0) (hbg : (255 : Int32) < c1) :
    own_Met l mN16 jdk_52_method_21_code 7 (some .int) ws ({ frames := 0, cells := 0, slots := 0, locals := 0 } : Room) #[(.ref a0), (.int 0), (.ref a2), (.int 0), (.int 3)] Z h0 (QrmCp5_3_1 Z a0 a2 ka kb c0 c1 c2 h0 n0) := by
  refine MetFree.of_bodySF (plainFor_of_name pn_StringUTF16) hisR ?_
  intro p e s m args below meth c s₁ Bd hml0 hP hK
  obtain ⟨rfl, hZ, hh⟩ := hP
  have hml : c.maxLocals = 7 := hml0
  obtain ⟨hx, hby, hown, hnm, X0, e0⟩ := own_start Bd hml0 hh
  have N0 := Fr.nil n0
  have pre0 : ∀ t, oS p e below s₁ (mkF m 0 #[rv a0, iv 0, rv a2, iv 0, iv 3, .unset, .unset] []) t → Steps p.tables e below (s₁.setTop (entryFrame m #[(.ref a0), (.int 0), (.ref a2), (.int 0), (.int 3)] 7)) t := fun t k => castTop (by first | (simp [entryFrame, mkF, argsToLocals, Value.category]; done) | rfl) k
  obtain ⟨cl1, Ar1, qk1, Sz1, Ng1, Hs1, Gs1⟩ := id hA
  have hin1 : ¬ ((0 : Int32) < 0 ∨ cl1.slots.size ≤ ((0 : Int32)).toNatClampNeg) := inb_of Sz1 ⟨by decide, by decide⟩
  have hat1 : cl1.slots[((0 : Int32)).toNatClampNeg]? = some (.int c0) := Hs1.at hin1 rfl
  obtain ⟨cl2, Ar2, qk2, Sz2, Ng2, Hs2, Gs2⟩ := id hB
  have hin2 : ¬ ((0 : Int32) < 0 ∨ cl2.slots.size ≤ ((0 : Int32)).toNatClampNeg) := inb_of Sz2 ⟨by decide, by decide⟩
  obtain ⟨T3, h3, X3, e3, W3, st3⟩ := stB X0 hx hZ e0 Ar2 (j := (0 : Int32)) hin2 (g := (mkF m 31 #[rv a0, iv 0, rv a2, iv 0, iv 3, iv 0, iv c0] [(.int (c0).toInt8.toInt32), (.int 0), (.ref a2)])) rfl rfl (hb hby d8_31)
  have N3 := Fr.snoc X3 N0 hge
  have Z3 : n0 ≤ h3.size := Nat.le_trans Z0 (Nat.le_of_eq W3.size.symm)
  have K3 : Keep h0 h3 [a2] := (Keep.refl h0 [a2]).wr W3 (Or.inl (List.mem_of_getElem? (i := 0) rfl))
  have V3 : Arv Z h3 a2 kb .byte (3 : Int32) [(.int (nar .byte (c0).toInt8.toInt32)), (.int (0 : Int32)), (.int (0 : Int32))] (.int (0 : Int32)) := Arv.set Ar2 qk2 Sz2 Ng2 Hs2 Gs2 (fits_nar_byte _) W3 0 rfl (Nat.le_of_ble_eq_true rfl)
  have f4 := (hA.other W3 hne)
  obtain ⟨cl5, Ar5, qk5, Sz5, Ng5, Hs5, Gs5⟩ := id f4
  have hin5 : ¬ ((1 : Int32) < 0 ∨ cl5.slots.size ≤ ((1 : Int32)).toNatClampNeg) := inb_of Sz5 ⟨by decide, by decide⟩
  have hat5 : cl5.slots[((1 : Int32)).toNatClampNeg]? = some (.int c1) := Hs5.at hin5 rfl
  have S6 : ∀ t, oS p e below T3 (mkF m 25 #[rv a0, iv 1, rv a2, iv 1, iv 3, iv 1, iv c1] [(.int 1)]) t → oS p e below s₁ (mkF m 0 #[rv a0, iv 0, rv a2, iv 0, iv 3, .unset, .unset] []) t := fun t k => id (by
    show oS p e below s₁ (mkF m 0 #[rv a0, iv 0, rv a2, iv 0, iv 3, .unset, .unset] []) _
    refine XT.iconstV X0.here hx rfl (0 : Int32) (hb hby d8_0) (by decide) ?_
    refine XS.istore X0.here hx rfl (hb hby d8_1) rfl (l' := #[rv a0, iv 0, rv a2, iv 0, iv 3, iv 0, .unset]) rfl ?_
    refine XS.iload X0.here hx rfl (hb hby d8_3) rfl ?_
    refine XS.iload X0.here hx rfl (hb hby d8_5) rfl ?_
    refine XS.icmpNo X0.here hx rfl (hb hby d8_7) rfl (XT.ii_ge_f (by decide)) ?_
    refine XS.aloadN X0.here hx rfl (hb hby d8_10) rfl rfl ?_
    refine XS.iloadN X0.here hx rfl (hb hby d8_11) rfl ?_
    refine X0.caload hx (j := (0 : Int32)) (v := (.int c0)) (by rw [e0]; exact Ar1.1) (State.isArrayOf_alike hZ.alike Ar1.2.1) Ar1.2.2 hin1 hat1 (g := (mkF m 12 #[rv a0, iv 0, rv a2, iv 0, iv 3, iv 0, .unset] [(.int 0), (.ref a0)])) rfl rfl (hb hby d8_12) _ ?_
    refine XS.istore X0.here hx rfl (hb hby d8_13) rfl (l' := #[rv a0, iv 0, rv a2, iv 0, iv 3, iv 0, iv c0]) rfl ?_
    refine XS.iload X0.here hx rfl (hb hby d8_15) rfl ?_
    refine XT.sipushV X0.here hx rfl (255 : Int32) (hb hby d8_17) (by decide) ?_
    refine XS.icmpYes X0.here hx rfl (pc0 := 20) (pc' := 26) rfl (hb hby d8_20) rfl (XT.ii_le_t hc0) (by decide) (by decide) ?_
    refine XS.aloadN X0.here hx rfl (hb hby d8_26) rfl rfl ?_
    refine XS.iloadN X0.here hx rfl (hb hby d8_27) rfl ?_
    refine XS.iload X0.here hx rfl (hb hby d8_28) rfl ?_
    refine XT.i2b X0.here hx rfl (hb hby d8_30) rfl ?_
    refine st3 _ ?_
    refine XT.iincV X3.here hx rfl (1 : Int32) (hb hby d8_32) (by decide) rfl (l' := #[rv a0, iv 1, rv a2, iv 0, iv 3, iv 0, iv c0]) rfl ?_
    refine XT.iincV X3.here hx rfl (1 : Int32) (hb hby d8_35) (by decide) rfl (l' := #[rv a0, iv 1, rv a2, iv 1, iv 3, iv 0, iv c0]) rfl ?_
    refine XT.iincV X3.here hx rfl (1 : Int32) (hb hby d8_38) (by decide) rfl (l' := #[rv a0, iv 1, rv a2, iv 1, iv 3, iv 1, iv c0]) rfl ?_
    show oS p e below T3 (mkF m 41 #[rv a0, iv 1, rv a2, iv 1, iv 3, iv 1, iv c0] []) _
    refine XS.goto X3.here hx rfl (pc0 := 41) (pc' := 3) rfl (hb hby d8_41) (by decide) (by decide) ?_
    refine XS.iload X3.here hx rfl (hb hby d8_3) rfl ?_
    refine XS.iload X3.here hx rfl (hb hby d8_5) rfl ?_
    refine XS.icmpNo X3.here hx rfl (hb hby d8_7) rfl (XT.ii_ge_f (by decide)) ?_
    refine XS.aloadN X3.here hx rfl (hb hby d8_10) rfl rfl ?_
    refine XS.iloadN X3.here hx rfl (hb hby d8_11) rfl ?_
    refine X3.caload hx (j := (1 : Int32)) (v := (.int c1)) (by rw [e3]; exact Ar5.1) (State.isArrayOf_alike hZ.alike Ar5.2.1) Ar5.2.2 hin5 hat5 (g := (mkF m 12 #[rv a0, iv 1, rv a2, iv 1, iv 3, iv 1, iv c0] [(.int 1), (.ref a0)])) rfl rfl (hb hby d8_12) _ ?_
    refine XS.istore X3.here hx rfl (hb hby d8_13) rfl (l' := #[rv a0, iv 1, rv a2, iv 1, iv 3, iv 1, iv c1]) rfl ?_
    refine XS.iload X3.here hx rfl (hb hby d8_15) rfl ?_
    refine XT.sipushV X3.here hx rfl (255 : Int32) (hb hby d8_17) (by decide) ?_
    refine XS.icmpNo X3.here hx rfl (hb hby d8_20) rfl (XT.ii_le_f hbg) ?_
    refine XS.iload X3.here hx rfl (hb hby d8_23) rfl ?_
    exact k)
  obtain ⟨fs, hr, hrun, hended, hW, hsame⟩ := X3.leave (v := some (.int 1)) (fun h => by rw [Bd.returns] at h; cases h)
  refine ⟨_, _, pre0 _ (S6 _ ?_), hrun, hended, _, _, rfl, ?_, ⟨_, rfl⟩, hW, hsame.mono (by decide) (by decide)⟩
  · exact retI X3 hx Bd.returns (hb hby d8_25) hr
  · show QrmCp5_3_1 Z a0 a2 ka kb c0 c1 c2 h0 n0 _ T3.heap _
    rw [e3]
    exact ⟨congrArg (fun z => some (Value.int z)) (by decide), N3, K3, V3⟩
def QrmCp3_3_1 (Z : State) (a0 : Addr) (ka : ClassId) (c0 : Int32) (c1 : Int32) (c2 : Int32) (h0 : Heap) (n0 : Nat) (v : Option Value) (h : Heap) (L : List Loc) : Prop := ∃ (b : Addr) (k : ClassId), v = some (.ref b) ∧ Fr n0 L ∧ h0.size ≤ b ∧ Keep h0 h [] ∧ Arv Z h b k .byte (6 : Int32) [(.int (own_lo c0)), (.int (own_hi c0)), (.int (own_lo c1)), (.int (own_hi c1)), (.int (own_lo c2)), (.int (own_hi c2))] (.int (0 : Int32))
set_option maxRecDepth 65536 in
set_option maxHeartbeats 40000000 in
theorem rmCp3_3_1 (l : Launch) (Z : State) (av0 : Array Value) (hw : ∀ d ∈ tables_1, d.before av0 Z = true) (ws : List Jvm.Cond) (a0 : Addr) (ka : ClassId) (c0 : Int32) (c1 : Int32) (c2 : Int32) (h0 : Heap) (n0 : Nat) (Z0 : n0 ≤ h0.size) (hA : Arv Z h0 a0 ka .char (3 : Int32) [(.int c0), (.int c1), (.int c2)] (.int (0 : Int32))) (hc0 : ¬ (255 : Int32) < c0) (hbg : (255 : Int32) < c1) (hg : 0 ≤ c1.toInt ∧ c1.toInt < 65536) (sA : Sta Z h0 "java/lang/StringUTF16" "$assertionsDisabled" "Z" (.int (1 : Int32))) (sH : Sta Z h0 "java/lang/StringUTF16" "HI_BYTE_SHIFT" "I" (.int (0 : Int32))) (sL : Sta Z h0 "java/lang/StringUTF16" "LO_BYTE_SHIFT" "I" (.int (8 : Int32))) :
    own_Met l mN21 jdk_52_method_16_code 6 (some (.array .byte)) ws ({ frames := 3, cells := 2, slots := 9, locals := 40 } : Room) #[(.ref a0), (.int 0), (.int 3)] Z h0 (QrmCp3_3_1 Z a0 ka c0 c1 c2 h0 n0) := by
  refine MetFree.of_bodySF (plainFor_of_name pn_StringUTF16) hisR ?_
  intro p e s m args below meth c s₁ Bd hml0 hP hK
  obtain ⟨rfl, hZ, hh⟩ := hP
  have hml : c.maxLocals = 6 := hml0
  obtain ⟨hx, hby, hown, hnm, X0, e0⟩ := own_start Bd hml0 hh
  have N0 := Fr.nil n0
  have pre0 : ∀ t, oS p e below s₁ (mkF m 0 #[rv a0, iv 0, iv 3, .unset, .unset, .unset] []) t → Steps p.tables e below (s₁.setTop (entryFrame m #[(.ref a0), (.int 0), (.int 3)] 6)) t := fun t k => castTop (by first | (simp [entryFrame, mkF, argsToLocals, Value.category]; done) | rfl) k
  obtain ⟨T1, h1, k1, X1, e1, E1, A1, st1⟩ := newP X0 hx hZ (hw _ (own_w 16 rfl)) e0 (g := (mkF m 1 #[rv a0, iv 0, iv 3, .unset, .unset, .unset] [(.int 3)])) rfl (hb hby d7_1) rfl (by decide) (cap := 3) (by decide) (by decide) (by decide) (by decide)
  obtain ⟨b1, g1⟩ : ∃ z, z = h0.size := ⟨_, rfl⟩
  rw [← g1] at A1 st1
  have ne_a0_b1 : a0 ≠ b1 := Nat.ne_of_lt (Nat.lt_of_lt_of_le hA.lt (Nat.le_of_eq g1.symm))
  have ge_b1 : n0 ≤ b1 := Nat.le_trans Z0 (Nat.le_of_eq g1.symm)
  have sz_b1 : h0.size ≤ b1 := Nat.le_of_eq g1.symm
  have Z1 : n0 ≤ h1.size := Nat.le_trans Z0 E1.1
  have K1 : Keep h0 h1 [] := (Keep.refl h0 []).ext E1
  have V1 : Arv Z h1 b1 k1 .byte (3 : Int32) [(.int (0 : Int32)), (.int (0 : Int32)), (.int (0 : Int32))] (.int (0 : Int32)) := (Arv.new A1 (by decide)).pad (pad_rep [] (.int (0 : Int32)) 3)
  have f2 := (hA.ext E1)
  obtain ⟨_, T3, Lc3, X3, hQ3, st3⟩ := own_callS (W := 0) (y := mN16) X1 hx hZ hown (hw _ (own_w 42 rfl)) (hw _ (own_w 43 rfl)) (hw _ (own_w 40 rfl)) (hw _ (own_w 44 rfl)) (by decide) (rmCp5_3_1 l Z av0 hw [] a0 b1 ka k1 c0 c1 c2 h1 n0 Z1 f2 V1 ne_a0_b1 ge_b1 hc0 hbg) (by decide) (by decide) (g := (mkF m 9 #[rv a0, iv 0, iv 3, rv b1, .unset, .unset] [(.int 3), (.int 0), (.ref b1), (.int 0), (.ref a0)])) rfl (by rw [hml]; rfl) (argsL := [(.ref a0), (.int 0), (.ref b1), (.int 0), (.int 3)]) (rest := []) (lenOf pd__CI_BII_I rfl) rfl (hb hby d7_9) rfl e1 (by decide : 1 + 0 ≤ _) (by decide : 3 + 0 ≤ _)
  obtain ⟨rfl, N3q, K3, V3⟩ := hQ3
  have N3 := Fr.app N0 N3q
  have e3 : T3.heap = T3.heap := rfl
  have Zk3 : n0 ≤ T3.heap.size := Nat.le_trans Z1 K3.1
  have Kk3 : Keep h0 T3.heap [] := K1.trans K3 (allS (Or.inr sz_b1) all0)
  have f4 := (f2.keep K3 (ninS ne_a0_b1 nin0))
  have f5 := (own_stak (sA.ext E1) K3 (allS (own_arns V1) all0))
  have f6 := (own_stak (sH.ext E1) K3 (allS (own_arns V1) all0))
  have f7 := (own_stak (sL.ext E1) K3 (allS (own_arns V1) all0))
  obtain ⟨_, T8, Lc8, X8, hQ8, st8⟩ := own_callS (W := 0) (y := mN20) X3 hx hZ hown (hw _ (own_w 78 rfl)) (hw _ (own_w 79 rfl)) (hw _ (own_w 40 rfl)) (hw _ (own_w 80 rfl)) (by decide) (rmTb_3 l Z av0 hw [] a0 ka c0 c1 c2 T3.heap n0 Zk3 f4 f5 f6 f7) (by decide) (by decide) (g := (mkF m 23 #[rv a0, iv 0, iv 3, rv b1, iv 1, .unset] [(.int 3), (.int 0), (.ref a0)])) rfl (by rw [hml]; rfl) (argsL := [(.ref a0), (.int 0), (.int 3)]) (rest := []) (lenOf pd__CII_B rfl) rfl (hb hby d7_23) rfl e3 (by decide : 1 + 1 ≤ _) (by decide : 3 + 6 ≤ _)
  obtain ⟨b8, kb8, rfl, N8q, gb8, K8, V8⟩ := hQ8
  have N8 := Fr.app N3 N8q
  have e8 : T8.heap = T8.heap := rfl
  have ne_a0_b8 : a0 ≠ b8 := Nat.ne_of_lt (Nat.lt_of_lt_of_le f4.lt gb8)
  have ne_b1_b8 : b1 ≠ b8 := Nat.ne_of_lt (Nat.lt_of_lt_of_le V3.lt gb8)
  have ge_b8 : n0 ≤ b8 := Nat.le_trans Zk3 gb8
  have sz_b8 : h0.size ≤ b8 := Nat.le_trans Kk3.1 gb8
  have Zk8 : n0 ≤ T8.heap.size := Nat.le_trans Zk3 K8.1
  have Kk8 : Keep h0 T8.heap [] := Kk3.trans K8 all0
  have f9 := (own_stak f5 K8 all0)
  have f10 := (own_stak f6 K8 all0)
  have f11 := (own_stak f7 K8 all0)
  obtain ⟨_, T12, Lc12, X12, hQ12, st12⟩ := own_callS (W := 0) (y := mN12) X8 hx hZ hown (hw _ (own_w 94 rfl)) (hw _ (own_w 95 rfl)) (hw _ (own_w 40 rfl)) (hw _ (own_w 96 rfl)) (by decide) (rmGc l Z av0 hw [] b8 kb8 (6 : Int32) [(.int (own_lo c0)), (.int (own_hi c0)), (.int (own_lo c1)), (.int (own_hi c1)), (.int (own_lo c2)), (.int (own_hi c2))] (1 : Int32) (own_lo c1) (own_hi c1) T8.heap n0 Zk8 V8 f9 f10 f11 (by decide) (by decide) rfl rfl) (by decide) (by decide) (g := (mkF m 32 #[rv a0, iv 0, iv 3, rv b1, iv 1, rv b8] [(.int 1), (.ref b8)])) rfl (by rw [hml]; rfl) (argsL := [(.ref b8), (.int 1)]) (rest := []) (lenOf pd__BI_C rfl) rfl (hb hby d7_32) rfl e8 (by decide : 2 + 0 ≤ _) (by decide : 9 + 0 ≤ _)
  obtain ⟨rfl, N12q, hh12⟩ := hQ12
  have N12 := Fr.app N8 N12q
  have e12 : T12.heap = T8.heap := hh12
  have S13 : ∀ t, oS p e below T12 (mkF m 56 #[rv a0, iv 0, iv 3, rv b1, iv 1, rv b8] [(.ref b8)]) t → oS p e below s₁ (mkF m 0 #[rv a0, iv 0, iv 3, .unset, .unset, .unset] []) t := fun t k => id (by
    show oS p e below s₁ (mkF m 0 #[rv a0, iv 0, iv 3, .unset, .unset, .unset] []) _
    refine XS.iloadN X0.here hx rfl (hb hby d7_0) rfl ?_
    refine st1 _ ?_
    refine XS.astoreN X1.here hx rfl (hb hby d7_3) rfl rfl (l' := #[rv a0, iv 0, iv 3, rv b1, .unset, .unset]) rfl ?_
    refine XS.aloadN X1.here hx rfl (hb hby d7_4) rfl rfl ?_
    refine XS.iloadN X1.here hx rfl (hb hby d7_5) rfl ?_
    refine XS.aloadN X1.here hx rfl (hb hby d7_6) rfl rfl ?_
    refine XT.iconstV X1.here hx rfl (0 : Int32) (hb hby d7_7) (by decide) ?_
    refine XS.iloadN X1.here hx rfl (hb hby d7_8) rfl ?_
    refine st3 _ ?_
    refine XS.istore X3.here hx rfl (hb hby d7_12) rfl (l' := #[rv a0, iv 0, iv 3, rv b1, iv 1, .unset]) rfl ?_
    refine XS.iload X3.here hx rfl (hb hby d7_14) rfl ?_
    refine XS.iloadN X3.here hx rfl (hb hby d7_16) rfl ?_
    refine XS.icmpNo X3.here hx rfl (hb hby d7_17) rfl (XT.ii_eq_f (by decide)) ?_
    refine XS.aloadN X3.here hx rfl (hb hby d7_20) rfl rfl ?_
    refine XS.iloadN X3.here hx rfl (hb hby d7_21) rfl ?_
    refine XS.iloadN X3.here hx rfl (hb hby d7_22) rfl ?_
    refine st8 _ ?_
    refine XS.astore X8.here hx rfl (hb hby d7_26) rfl rfl (l' := #[rv a0, iv 0, iv 3, rv b1, iv 1, rv b8]) rfl ?_
    refine XS.aload X8.here hx rfl (hb hby d7_28) rfl rfl ?_
    refine XS.iload X8.here hx rfl (hb hby d7_30) rfl ?_
    show oS p e below T8 (mkF m 32 #[rv a0, iv 0, iv 3, rv b1, iv 1, rv b8] [(.int 1), (.ref b8)]) _
    refine st12 _ ?_
    refine XT.sipushV X12.here hx rfl (255 : Int32) (hb hby d7_35) (by decide) ?_
    refine XS.icmpYes X12.here hx rfl (pc0 := 38) (pc' := 54) rfl (hb hby d7_38) rfl (XT.ii_gt_t (by rw [own_gcv c1 hg.1 hg.2]; exact hbg)) (by decide) (by decide) ?_
    refine XS.aload X12.here hx rfl (hb hby d7_54) rfl rfl ?_
    exact k)
  obtain ⟨fs, hr, hrun, hended, hW, hsame⟩ := X12.leave (v := some (.ref b8)) (fun h => by rw [Bd.returns] at h; cases h)
  refine ⟨_, _, pre0 _ (S13 _ ?_), hrun, hended, _, _, rfl, ?_, ⟨_, rfl⟩, hW, hsame.mono (by decide) (by decide)⟩
  · jvm_step X12.here [X12.here.top, hx, (hb hby d7_56), X12.method', Bd.returns, Value.isRef, FieldType.isReference]
    first | (intro acts; rw [hr _ acts rfl rfl rfl]) | rw [hr _ _ rfl rfl rfl]
    exact Steps.refl _
  · show QrmCp3_3_1 Z a0 ka c0 c1 c2 h0 n0 _ T12.heap _
    rw [e12]
    exact ⟨_, _, rfl, N12, sz_b8, Kk8, V8⟩
def QrmCp5_3_2 (Z : State) (a0 : Addr) (a2 : Addr) (ka : ClassId) (kb : ClassId) (c0 : Int32) (c1 : Int32) (c2 : Int32) (h0 : Heap) (n0 : Nat) (v : Option Value) (h : Heap) (L : List Loc) : Prop := v = some (.int (2 : Int32)) ∧ Fr n0 L ∧ Keep h0 h [a2] ∧ Arv Z h a2 kb .byte (3 : Int32) [(.int (own_b c0)), (.int (own_b c1)), (.int (0 : Int32))] (.int (0 : Int32))
set_option maxRecDepth 65536 in
set_option maxHeartbeats 40000000 in
theorem rmCp5_3_2 (l : Launch) (Z : State) (av0 : Array Value) (hw : ∀ d ∈ tables_1, d.before av0 Z = true) (ws : List Jvm.Cond) (a0 : Addr) (a2 : Addr) (ka : ClassId) (kb : ClassId) (c0 : Int32) (c1 : Int32) (c2 : Int32) (h0 : Heap) (n0 : Nat) (Z0 : n0 ≤ h0.size) (hA : Arv Z h0 a0 ka .char (3 : Int32) [(.int c0), (.int c1), (.int c2)] (.int (0 : Int32))) (hB : Arv Z h0 a2 kb .byte (3 : Int32) [(.int (0 : Int32)), (.int (0 : Int32)), (.int (0 : Int32))] (.int (0 : Int32))) (hne : a0 ≠ a2) (hge : n0 ≤ a2) (hc0 : ¬ (255 : Int32) < c0) (hc1 : ¬ (255 : Int32) < c1) (hbg : (255 : Int32) < c2) :
    own_Met l mN16 jdk_52_method_21_code 7 (some .int) ws ({ frames := 0, cells := 0, slots := 0, locals := 0 } : Room) #[(.ref a0), (.int 0), (.ref a2), (.int 0), (.int 3)] Z h0 (QrmCp5_3_2 Z a0 a2 ka kb c0 c1 c2 h0 n0) := by
  refine MetFree.of_bodySF (plainFor_of_name pn_StringUTF16) hisR ?_
  intro p e s m args below meth c s₁ Bd hml0 hP hK
  obtain ⟨rfl, hZ, hh⟩ := hP
  have hml : c.maxLocals = 7 := hml0
  obtain ⟨hx, hby, hown, hnm, X0, e0⟩ := own_start Bd hml0 hh
  have N0 := Fr.nil n0
  have pre0 : ∀ t, oS p e below s₁ (mkF m 0 #[rv a0, iv 0, rv a2, iv 0, iv 3, .unset, .unset] []) t → Steps p.tables e below (s₁.setTop (entryFrame m #[(.ref a0), (.int 0), (.ref a2), (.int 0), (.int 3)] 7)) t := fun t k => castTop (by first | (simp [entryFrame, mkF, argsToLocals, Value.category]; done) | rfl) k
  obtain ⟨cl1, Ar1, qk1, Sz1, Ng1, Hs1, Gs1⟩ := id hA
  have hin1 : ¬ ((0 : Int32) < 0 ∨ cl1.slots.size ≤ ((0 : Int32)).toNatClampNeg) := inb_of Sz1 ⟨by decide, by decide⟩
  have hat1 : cl1.slots[((0 : Int32)).toNatClampNeg]? = some (.int c0) := Hs1.at hin1 rfl
  obtain ⟨cl2, Ar2, qk2, Sz2, Ng2, Hs2, Gs2⟩ := id hB
  have hin2 : ¬ ((0 : Int32) < 0 ∨ cl2.slots.size ≤ ((0 : Int32)).toNatClampNeg) := inb_of Sz2 ⟨by decide, by decide⟩
  obtain ⟨T3, h3, X3, e3, W3, st3⟩ := stB X0 hx hZ e0 Ar2 (j := (0 : Int32)) hin2 (g := (mkF m 31 #[rv a0, iv 0, rv a2, iv 0, iv 3, iv 0, iv c0] [(.int (c0).toInt8.toInt32), (.int 0), (.ref a2)])) rfl rfl (hb hby d8_31)
  have N3 := Fr.snoc X3 N0 hge
  have Z3 : n0 ≤ h3.size := Nat.le_trans Z0 (Nat.le_of_eq W3.size.symm)
  have K3 : Keep h0 h3 [a2] := (Keep.refl h0 [a2]).wr W3 (Or.inl (List.mem_of_getElem? (i := 0) rfl))
  have V3 : Arv Z h3 a2 kb .byte (3 : Int32) [(.int (nar .byte (c0).toInt8.toInt32)), (.int (0 : Int32)), (.int (0 : Int32))] (.int (0 : Int32)) := Arv.set Ar2 qk2 Sz2 Ng2 Hs2 Gs2 (fits_nar_byte _) W3 0 rfl (Nat.le_of_ble_eq_true rfl)
  have f4 := (hA.other W3 hne)
  obtain ⟨cl5, Ar5, qk5, Sz5, Ng5, Hs5, Gs5⟩ := id f4
  have hin5 : ¬ ((1 : Int32) < 0 ∨ cl5.slots.size ≤ ((1 : Int32)).toNatClampNeg) := inb_of Sz5 ⟨by decide, by decide⟩
  have hat5 : cl5.slots[((1 : Int32)).toNatClampNeg]? = some (.int c1) := Hs5.at hin5 rfl
  obtain ⟨cl6, Ar6, qk6, Sz6, Ng6, Hs6, Gs6⟩ := id V3
  have hin6 : ¬ ((1 : Int32) < 0 ∨ cl6.slots.size ≤ ((1 : Int32)).toNatClampNeg) := inb_of Sz6 ⟨by decide, by decide⟩
  obtain ⟨T7, h7, X7, e7, W7, st7⟩ := stB X3 hx hZ e3 Ar6 (j := (1 : Int32)) hin6 (g := (mkF m 31 #[rv a0, iv 1, rv a2, iv 1, iv 3, iv 1, iv c1] [(.int (c1).toInt8.toInt32), (.int 1), (.ref a2)])) rfl rfl (hb hby d8_31)
  have N7 := Fr.snoc X7 N3 hge
  have Z7 : n0 ≤ h7.size := Nat.le_trans Z3 (Nat.le_of_eq W7.size.symm)
  have K7 : Keep h0 h7 [a2] := K3.wr W7 (Or.inl (List.mem_of_getElem? (i := 0) rfl))
  have V7 : Arv Z h7 a2 kb .byte (3 : Int32) [(.int (nar .byte (c0).toInt8.toInt32)), (.int (nar .byte (c1).toInt8.toInt32)), (.int (0 : Int32))] (.int (0 : Int32)) := Arv.set Ar6 qk6 Sz6 Ng6 Hs6 Gs6 (fits_nar_byte _) W7 1 rfl (Nat.le_of_ble_eq_true rfl)
  have f8 := (f4.other W7 hne)
  obtain ⟨cl9, Ar9, qk9, Sz9, Ng9, Hs9, Gs9⟩ := id f8
  have hin9 : ¬ ((2 : Int32) < 0 ∨ cl9.slots.size ≤ ((2 : Int32)).toNatClampNeg) := inb_of Sz9 ⟨by decide, by decide⟩
  have hat9 : cl9.slots[((2 : Int32)).toNatClampNeg]? = some (.int c2) := Hs9.at hin9 rfl
  have S10 : ∀ t, oS p e below T7 (mkF m 25 #[rv a0, iv 2, rv a2, iv 2, iv 3, iv 2, iv c2] [(.int 2)]) t → oS p e below s₁ (mkF m 0 #[rv a0, iv 0, rv a2, iv 0, iv 3, .unset, .unset] []) t := fun t k => id (by
    show oS p e below s₁ (mkF m 0 #[rv a0, iv 0, rv a2, iv 0, iv 3, .unset, .unset] []) _
    refine XT.iconstV X0.here hx rfl (0 : Int32) (hb hby d8_0) (by decide) ?_
    refine XS.istore X0.here hx rfl (hb hby d8_1) rfl (l' := #[rv a0, iv 0, rv a2, iv 0, iv 3, iv 0, .unset]) rfl ?_
    refine XS.iload X0.here hx rfl (hb hby d8_3) rfl ?_
    refine XS.iload X0.here hx rfl (hb hby d8_5) rfl ?_
    refine XS.icmpNo X0.here hx rfl (hb hby d8_7) rfl (XT.ii_ge_f (by decide)) ?_
    refine XS.aloadN X0.here hx rfl (hb hby d8_10) rfl rfl ?_
    refine XS.iloadN X0.here hx rfl (hb hby d8_11) rfl ?_
    refine X0.caload hx (j := (0 : Int32)) (v := (.int c0)) (by rw [e0]; exact Ar1.1) (State.isArrayOf_alike hZ.alike Ar1.2.1) Ar1.2.2 hin1 hat1 (g := (mkF m 12 #[rv a0, iv 0, rv a2, iv 0, iv 3, iv 0, .unset] [(.int 0), (.ref a0)])) rfl rfl (hb hby d8_12) _ ?_
    refine XS.istore X0.here hx rfl (hb hby d8_13) rfl (l' := #[rv a0, iv 0, rv a2, iv 0, iv 3, iv 0, iv c0]) rfl ?_
    refine XS.iload X0.here hx rfl (hb hby d8_15) rfl ?_
    refine XT.sipushV X0.here hx rfl (255 : Int32) (hb hby d8_17) (by decide) ?_
    refine XS.icmpYes X0.here hx rfl (pc0 := 20) (pc' := 26) rfl (hb hby d8_20) rfl (XT.ii_le_t hc0) (by decide) (by decide) ?_
    refine XS.aloadN X0.here hx rfl (hb hby d8_26) rfl rfl ?_
    refine XS.iloadN X0.here hx rfl (hb hby d8_27) rfl ?_
    refine XS.iload X0.here hx rfl (hb hby d8_28) rfl ?_
    refine XT.i2b X0.here hx rfl (hb hby d8_30) rfl ?_
    refine st3 _ ?_
    refine XT.iincV X3.here hx rfl (1 : Int32) (hb hby d8_32) (by decide) rfl (l' := #[rv a0, iv 1, rv a2, iv 0, iv 3, iv 0, iv c0]) rfl ?_
    refine XT.iincV X3.here hx rfl (1 : Int32) (hb hby d8_35) (by decide) rfl (l' := #[rv a0, iv 1, rv a2, iv 1, iv 3, iv 0, iv c0]) rfl ?_
    refine XT.iincV X3.here hx rfl (1 : Int32) (hb hby d8_38) (by decide) rfl (l' := #[rv a0, iv 1, rv a2, iv 1, iv 3, iv 1, iv c0]) rfl ?_
    show oS p e below T3 (mkF m 41 #[rv a0, iv 1, rv a2, iv 1, iv 3, iv 1, iv c0] []) _
    refine XS.goto X3.here hx rfl (pc0 := 41) (pc' := 3) rfl (hb hby d8_41) (by decide) (by decide) ?_
    refine XS.iload X3.here hx rfl (hb hby d8_3) rfl ?_
    refine XS.iload X3.here hx rfl (hb hby d8_5) rfl ?_
    refine XS.icmpNo X3.here hx rfl (hb hby d8_7) rfl (XT.ii_ge_f (by decide)) ?_
    refine XS.aloadN X3.here hx rfl (hb hby d8_10) rfl rfl ?_
    refine XS.iloadN X3.here hx rfl (hb hby d8_11) rfl ?_
    refine X3.caload hx (j := (1 : Int32)) (v := (.int c1)) (by rw [e3]; exact Ar5.1) (State.isArrayOf_alike hZ.alike Ar5.2.1) Ar5.2.2 hin5 hat5 (g := (mkF m 12 #[rv a0, iv 1, rv a2, iv 1, iv 3, iv 1, iv c0] [(.int 1), (.ref a0)])) rfl rfl (hb hby d8_12) _ ?_
    refine XS.istore X3.here hx rfl (hb hby d8_13) rfl (l' := #[rv a0, iv 1, rv a2, iv 1, iv 3, iv 1, iv c1]) rfl ?_
    refine XS.iload X3.here hx rfl (hb hby d8_15) rfl ?_
    refine XT.sipushV X3.here hx rfl (255 : Int32) (hb hby d8_17) (by decide) ?_
    refine XS.icmpYes X3.here hx rfl (pc0 := 20) (pc' := 26) rfl (hb hby d8_20) rfl (XT.ii_le_t hc1) (by decide) (by decide) ?_
    refine XS.aloadN X3.here hx rfl (hb hby d8_26) rfl rfl ?_
    refine XS.iloadN X3.here hx rfl (hb hby d8_27) rfl ?_
    refine XS.iload X3.here hx rfl (hb hby d8_28) rfl ?_
    refine XT.i2b X3.here hx rfl (hb hby d8_30) rfl ?_
    refine st7 _ ?_
    refine XT.iincV X7.here hx rfl (1 : Int32) (hb hby d8_32) (by decide) rfl (l' := #[rv a0, iv 2, rv a2, iv 1, iv 3, iv 1, iv c1]) rfl ?_
    refine XT.iincV X7.here hx rfl (1 : Int32) (hb hby d8_35) (by decide) rfl (l' := #[rv a0, iv 2, rv a2, iv 2, iv 3, iv 1, iv c1]) rfl ?_
    refine XT.iincV X7.here hx rfl (1 : Int32) (hb hby d8_38) (by decide) rfl (l' := #[rv a0, iv 2, rv a2, iv 2, iv 3, iv 2, iv c1]) rfl ?_
    refine XS.goto X7.here hx rfl (pc0 := 41) (pc' := 3) rfl (hb hby d8_41) (by decide) (by decide) ?_
    show oS p e below T7 (mkF m 3 #[rv a0, iv 2, rv a2, iv 2, iv 3, iv 2, iv c1] []) _
    refine XS.iload X7.here hx rfl (hb hby d8_3) rfl ?_
    refine XS.iload X7.here hx rfl (hb hby d8_5) rfl ?_
    refine XS.icmpNo X7.here hx rfl (hb hby d8_7) rfl (XT.ii_ge_f (by decide)) ?_
    refine XS.aloadN X7.here hx rfl (hb hby d8_10) rfl rfl ?_
    refine XS.iloadN X7.here hx rfl (hb hby d8_11) rfl ?_
    refine X7.caload hx (j := (2 : Int32)) (v := (.int c2)) (by rw [e7]; exact Ar9.1) (State.isArrayOf_alike hZ.alike Ar9.2.1) Ar9.2.2 hin9 hat9 (g := (mkF m 12 #[rv a0, iv 2, rv a2, iv 2, iv 3, iv 2, iv c1] [(.int 2), (.ref a0)])) rfl rfl (hb hby d8_12) _ ?_
    refine XS.istore X7.here hx rfl (hb hby d8_13) rfl (l' := #[rv a0, iv 2, rv a2, iv 2, iv 3, iv 2, iv c2]) rfl ?_
    refine XS.iload X7.here hx rfl (hb hby d8_15) rfl ?_
    refine XT.sipushV X7.here hx rfl (255 : Int32) (hb hby d8_17) (by decide) ?_
    refine XS.icmpNo X7.here hx rfl (hb hby d8_20) rfl (XT.ii_le_f hbg) ?_
    refine XS.iload X7.here hx rfl (hb hby d8_23) rfl ?_
    exact k)
  obtain ⟨fs, hr, hrun, hended, hW, hsame⟩ := X7.leave (v := some (.int 2)) (fun h => by rw [Bd.returns] at h; cases h)
  refine ⟨_, _, pre0 _ (S10 _ ?_), hrun, hended, _, _, rfl, ?_, ⟨_, rfl⟩, hW, hsame.mono (by decide) (by decide)⟩
  · exact retI X7 hx Bd.returns (hb hby d8_25) hr
  · show QrmCp5_3_2 Z a0 a2 ka kb c0 c1 c2 h0 n0 _ T7.heap _
    rw [e7]
    exact ⟨congrArg (fun z => some (Value.int z)) (by decide), N7, K7, V7⟩
def QrmCp3_3_2 (Z : State) (a0 : Addr) (ka : ClassId) (c0 : Int32) (c1 : Int32) (c2 : Int32) (h0 : Heap) (n0 : Nat) (v : Option Value) (h : Heap) (L : List Loc) : Prop := ∃ (b : Addr) (k : ClassId), v = some (.ref b) ∧ Fr n0 L ∧ h0.size ≤ b ∧ Keep h0 h [] ∧ Arv Z h b k .byte (6 : Int32) [(.int (own_lo c0)), (.int (own_hi c0)), (.int (own_lo c1)), (.int (own_hi c1)), (.int (own_lo c2)), (.int (own_hi c2))] (.int (0 : Int32))
set_option maxRecDepth 65536 in
set_option maxHeartbeats 40000000 in
theorem rmCp3_3_2 (l : Launch) (Z : State) (av0 : Array Value) (hw : ∀ d ∈ tables_1, d.before av0 Z = true) (ws : List Jvm.Cond) (a0 : Addr) (ka : ClassId) (c0 : Int32) (c1 : Int32) (c2 : Int32) (h0 : Heap) (n0 : Nat) (Z0 : n0 ≤ h0.size) (hA : Arv Z h0 a0 ka .char (3 : Int32) [(.int c0), (.int c1), (.int c2)] (.int (0 : Int32))) (hc0 : ¬ (255 : Int32) < c0) (hc1 : ¬ (255 : Int32) < c1) (hbg : (255 : Int32) < c2) (hg : 0 ≤ c2.toInt ∧ c2.toInt < 65536) (sA : Sta Z h0 "java/lang/StringUTF16" "$assertionsDisabled" "Z" (.int (1 : Int32))) (sH : Sta Z h0 "java/lang/StringUTF16" "HI_BYTE_SHIFT" "I" (.int (0 : Int32))) (sL : Sta Z h0 "java/lang/StringUTF16" "LO_BYTE_SHIFT" "I" (.int (8 : Int32))) :
    own_Met l mN21 jdk_52_method_16_code 6 (some (.array .byte)) ws ({ frames := 3, cells := 2, slots := 9, locals := 40 } : Room) #[(.ref a0), (.int 0), (.int 3)] Z h0 (QrmCp3_3_2 Z a0 ka c0 c1 c2 h0 n0) := by
  refine MetFree.of_bodySF (plainFor_of_name pn_StringUTF16) hisR ?_
  intro p e s m args below meth c s₁ Bd hml0 hP hK
  obtain ⟨rfl, hZ, hh⟩ := hP
  have hml : c.maxLocals = 6 := hml0
  obtain ⟨hx, hby, hown, hnm, X0, e0⟩ := own_start Bd hml0 hh
  have N0 := Fr.nil n0
  have pre0 : ∀ t, oS p e below s₁ (mkF m 0 #[rv a0, iv 0, iv 3, .unset, .unset, .unset] []) t → Steps p.tables e below (s₁.setTop (entryFrame m #[(.ref a0), (.int 0), (.int 3)] 6)) t := fun t k => castTop (by first | (simp [entryFrame, mkF, argsToLocals, Value.category]; done) | rfl) k
  obtain ⟨T1, h1, k1, X1, e1, E1, A1, st1⟩ := newP X0 hx hZ (hw _ (own_w 16 rfl)) e0 (g := (mkF m 1 #[rv a0, iv 0, iv 3, .unset, .unset, .unset] [(.int 3)])) rfl (hb hby d7_1) rfl (by decide) (cap := 3) (by decide) (by decide) (by decide) (by decide)
  obtain ⟨b1, g1⟩ : ∃ z, z = h0.size := ⟨_, rfl⟩
  rw [← g1] at A1 st1
  have ne_a0_b1 : a0 ≠ b1 := Nat.ne_of_lt (Nat.lt_of_lt_of_le hA.lt (Nat.le_of_eq g1.symm))
  have ge_b1 : n0 ≤ b1 := Nat.le_trans Z0 (Nat.le_of_eq g1.symm)
  have sz_b1 : h0.size ≤ b1 := Nat.le_of_eq g1.symm
  have Z1 : n0 ≤ h1.size := Nat.le_trans Z0 E1.1
  have K1 : Keep h0 h1 [] := (Keep.refl h0 []).ext E1
  have V1 : Arv Z h1 b1 k1 .byte (3 : Int32) [(.int (0 : Int32)), (.int (0 : Int32)), (.int (0 : Int32))] (.int (0 : Int32)) := (Arv.new A1 (by decide)).pad (pad_rep [] (.int (0 : Int32)) 3)
  have f2 := (hA.ext E1)
  obtain ⟨_, T3, Lc3, X3, hQ3, st3⟩ := own_callS (W := 0) (y := mN16) X1 hx hZ hown (hw _ (own_w 42 rfl)) (hw _ (own_w 43 rfl)) (hw _ (own_w 40 rfl)) (hw _ (own_w 44 rfl)) (by decide) (rmCp5_3_2 l Z av0 hw [] a0 b1 ka k1 c0 c1 c2 h1 n0 Z1 f2 V1 ne_a0_b1 ge_b1 hc0 hc1 hbg) (by decide) (by decide) (g := (mkF m 9 #[rv a0, iv 0, iv 3, rv b1, .unset, .unset] [(.int 3), (.int 0), (.ref b1), (.int 0), (.ref a0)])) rfl (by rw [hml]; rfl) (argsL := [(.ref a0), (.int 0), (.ref b1), (.int 0), (.int 3)]) (rest := []) (lenOf pd__CI_BII_I rfl) rfl (hb hby d7_9) rfl e1 (by decide : 1 + 0 ≤ _) (by decide : 3 + 0 ≤ _)
  obtain ⟨rfl, N3q, K3, V3⟩ := hQ3
  have N3 := Fr.app N0 N3q
  have e3 : T3.heap = T3.heap := rfl
  have Zk3 : n0 ≤ T3.heap.size := Nat.le_trans Z1 K3.1
  have Kk3 : Keep h0 T3.heap [] := K1.trans K3 (allS (Or.inr sz_b1) all0)
  have f4 := (f2.keep K3 (ninS ne_a0_b1 nin0))
  have f5 := (own_stak (sA.ext E1) K3 (allS (own_arns V1) all0))
  have f6 := (own_stak (sH.ext E1) K3 (allS (own_arns V1) all0))
  have f7 := (own_stak (sL.ext E1) K3 (allS (own_arns V1) all0))
  obtain ⟨_, T8, Lc8, X8, hQ8, st8⟩ := own_callS (W := 0) (y := mN20) X3 hx hZ hown (hw _ (own_w 78 rfl)) (hw _ (own_w 79 rfl)) (hw _ (own_w 40 rfl)) (hw _ (own_w 80 rfl)) (by decide) (rmTb_3 l Z av0 hw [] a0 ka c0 c1 c2 T3.heap n0 Zk3 f4 f5 f6 f7) (by decide) (by decide) (g := (mkF m 23 #[rv a0, iv 0, iv 3, rv b1, iv 2, .unset] [(.int 3), (.int 0), (.ref a0)])) rfl (by rw [hml]; rfl) (argsL := [(.ref a0), (.int 0), (.int 3)]) (rest := []) (lenOf pd__CII_B rfl) rfl (hb hby d7_23) rfl e3 (by decide : 1 + 1 ≤ _) (by decide : 3 + 6 ≤ _)
  obtain ⟨b8, kb8, rfl, N8q, gb8, K8, V8⟩ := hQ8
  have N8 := Fr.app N3 N8q
  have e8 : T8.heap = T8.heap := rfl
  have ne_a0_b8 : a0 ≠ b8 := Nat.ne_of_lt (Nat.lt_of_lt_of_le f4.lt gb8)
  have ne_b1_b8 : b1 ≠ b8 := Nat.ne_of_lt (Nat.lt_of_lt_of_le V3.lt gb8)
  have ge_b8 : n0 ≤ b8 := Nat.le_trans Zk3 gb8
  have sz_b8 : h0.size ≤ b8 := Nat.le_trans Kk3.1 gb8
  have Zk8 : n0 ≤ T8.heap.size := Nat.le_trans Zk3 K8.1
  have Kk8 : Keep h0 T8.heap [] := Kk3.trans K8 all0
  have f9 := (own_stak f5 K8 all0)
  have f10 := (own_stak f6 K8 all0)
  have f11 := (own_stak f7 K8 all0)
  obtain ⟨_, T12, Lc12, X12, hQ12, st12⟩ := own_callS (W := 0) (y := mN12) X8 hx hZ hown (hw _ (own_w 94 rfl)) (hw _ (own_w 95 rfl)) (hw _ (own_w 40 rfl)) (hw _ (own_w 96 rfl)) (by decide) (rmGc l Z av0 hw [] b8 kb8 (6 : Int32) [(.int (own_lo c0)), (.int (own_hi c0)), (.int (own_lo c1)), (.int (own_hi c1)), (.int (own_lo c2)), (.int (own_hi c2))] (2 : Int32) (own_lo c2) (own_hi c2) T8.heap n0 Zk8 V8 f9 f10 f11 (by decide) (by decide) rfl rfl) (by decide) (by decide) (g := (mkF m 32 #[rv a0, iv 0, iv 3, rv b1, iv 2, rv b8] [(.int 2), (.ref b8)])) rfl (by rw [hml]; rfl) (argsL := [(.ref b8), (.int 2)]) (rest := []) (lenOf pd__BI_C rfl) rfl (hb hby d7_32) rfl e8 (by decide : 2 + 0 ≤ _) (by decide : 9 + 0 ≤ _)
  obtain ⟨rfl, N12q, hh12⟩ := hQ12
  have N12 := Fr.app N8 N12q
  have e12 : T12.heap = T8.heap := hh12
  have S13 : ∀ t, oS p e below T12 (mkF m 56 #[rv a0, iv 0, iv 3, rv b1, iv 2, rv b8] [(.ref b8)]) t → oS p e below s₁ (mkF m 0 #[rv a0, iv 0, iv 3, .unset, .unset, .unset] []) t := fun t k => id (by
    show oS p e below s₁ (mkF m 0 #[rv a0, iv 0, iv 3, .unset, .unset, .unset] []) _
    refine XS.iloadN X0.here hx rfl (hb hby d7_0) rfl ?_
    refine st1 _ ?_
    refine XS.astoreN X1.here hx rfl (hb hby d7_3) rfl rfl (l' := #[rv a0, iv 0, iv 3, rv b1, .unset, .unset]) rfl ?_
    refine XS.aloadN X1.here hx rfl (hb hby d7_4) rfl rfl ?_
    refine XS.iloadN X1.here hx rfl (hb hby d7_5) rfl ?_
    refine XS.aloadN X1.here hx rfl (hb hby d7_6) rfl rfl ?_
    refine XT.iconstV X1.here hx rfl (0 : Int32) (hb hby d7_7) (by decide) ?_
    refine XS.iloadN X1.here hx rfl (hb hby d7_8) rfl ?_
    refine st3 _ ?_
    refine XS.istore X3.here hx rfl (hb hby d7_12) rfl (l' := #[rv a0, iv 0, iv 3, rv b1, iv 2, .unset]) rfl ?_
    refine XS.iload X3.here hx rfl (hb hby d7_14) rfl ?_
    refine XS.iloadN X3.here hx rfl (hb hby d7_16) rfl ?_
    refine XS.icmpNo X3.here hx rfl (hb hby d7_17) rfl (XT.ii_eq_f (by decide)) ?_
    refine XS.aloadN X3.here hx rfl (hb hby d7_20) rfl rfl ?_
    refine XS.iloadN X3.here hx rfl (hb hby d7_21) rfl ?_
    refine XS.iloadN X3.here hx rfl (hb hby d7_22) rfl ?_
    refine st8 _ ?_
    refine XS.astore X8.here hx rfl (hb hby d7_26) rfl rfl (l' := #[rv a0, iv 0, iv 3, rv b1, iv 2, rv b8]) rfl ?_
    refine XS.aload X8.here hx rfl (hb hby d7_28) rfl rfl ?_
    refine XS.iload X8.here hx rfl (hb hby d7_30) rfl ?_
    show oS p e below T8 (mkF m 32 #[rv a0, iv 0, iv 3, rv b1, iv 2, rv b8] [(.int 2), (.ref b8)]) _
    refine st12 _ ?_
    refine XT.sipushV X12.here hx rfl (255 : Int32) (hb hby d7_35) (by decide) ?_
    refine XS.icmpYes X12.here hx rfl (pc0 := 38) (pc' := 54) rfl (hb hby d7_38) rfl (XT.ii_gt_t (by rw [own_gcv c2 hg.1 hg.2]; exact hbg)) (by decide) (by decide) ?_
    refine XS.aload X12.here hx rfl (hb hby d7_54) rfl rfl ?_
    exact k)
  obtain ⟨fs, hr, hrun, hended, hW, hsame⟩ := X12.leave (v := some (.ref b8)) (fun h => by rw [Bd.returns] at h; cases h)
  refine ⟨_, _, pre0 _ (S13 _ ?_), hrun, hended, _, _, rfl, ?_, ⟨_, rfl⟩, hW, hsame.mono (by decide) (by decide)⟩
  · jvm_step X12.here [X12.here.top, hx, (hb hby d7_56), X12.method', Bd.returns, Value.isRef, FieldType.isReference]
    first | (intro acts; rw [hr _ acts rfl rfl rfl]) | rw [hr _ _ rfl rfl rfl]
    exact Steps.refl _
  · show QrmCp3_3_2 Z a0 ka c0 c1 c2 h0 n0 _ T12.heap _
    rw [e12]
    exact ⟨_, _, rfl, N12, sz_b8, Kk8, V8⟩
def QrmCp5_3_3 (Z : State) (a0 : Addr) (a2 : Addr) (ka : ClassId) (kb : ClassId) (c0 : Int32) (c1 : Int32) (c2 : Int32) (h0 : Heap) (n0 : Nat) (v : Option Value) (h : Heap) (L : List Loc) : Prop := v = some (.int (3 : Int32)) ∧ Fr n0 L ∧ Keep h0 h [a2] ∧ Arv Z h a2 kb .byte (3 : Int32) [(.int (own_b c0)), (.int (own_b c1)), (.int (own_b c2))] (.int (0 : Int32))
set_option maxRecDepth 65536 in
set_option maxHeartbeats 40000000 in
theorem rmCp5_3_3 (l : Launch) (Z : State) (av0 : Array Value) (hw : ∀ d ∈ tables_1, d.before av0 Z = true) (ws : List Jvm.Cond) (a0 : Addr) (a2 : Addr) (ka : ClassId) (kb : ClassId) (c0 : Int32) (c1 : Int32) (c2 : Int32) (h0 : Heap) (n0 : Nat) (Z0 : n0 ≤ h0.size) (hA : Arv Z h0 a0 ka .char (3 : Int32) [(.int c0), (.int c1), (.int c2)] (.int (0 : Int32))) (hB : Arv Z h0 a2 kb .byte (3 : Int32) [(.int (0 : Int32)), (.int (0 : Int32)), (.int (0 : Int32))] (.int (0 : Int32))) (hne : a0 ≠ a2) (hge : n0 ≤ a2) (hc0 : ¬ (255 : Int32) < c0) (hc1 : ¬ (255 : Int32) < c1) (hc2 : ¬ (255 : Int32) < c2) :
    own_Met l mN16 jdk_52_method_21_code 7 (some .int) ws ({ frames := 0, cells := 0, slots := 0, locals := 0 } : Room) #[(.ref a0), (.int 0), (.ref a2), (.int 0), (.int 3)] Z h0 (QrmCp5_3_3 Z a0 a2 ka kb c0 c1 c2 h0 n0) := by
  refine MetFree.of_bodySF (plainFor_of_name pn_StringUTF16) hisR ?_
  intro p e s m args below meth c s₁ Bd hml0 hP hK
  obtain ⟨rfl, hZ, hh⟩ := hP
  have hml : c.maxLocals = 7 := hml0
  obtain ⟨hx, hby, hown, hnm, X0, e0⟩ := own_start Bd hml0 hh
  have N0 := Fr.nil n0
  have pre0 : ∀ t, oS p e below s₁ (mkF m 0 #[rv a0, iv 0, rv a2, iv 0, iv 3, .unset, .unset] []) t → Steps p.tables e below (s₁.setTop (entryFrame m #[(.ref a0), (.int 0), (.ref a2), (.int 0), (.int 3)] 7)) t := fun t k => castTop (by first | (simp [entryFrame, mkF, argsToLocals, Value.category]; done) | rfl) k
  obtain ⟨cl1, Ar1, qk1, Sz1, Ng1, Hs1, Gs1⟩ := id hA
  have hin1 : ¬ ((0 : Int32) < 0 ∨ cl1.slots.size ≤ ((0 : Int32)).toNatClampNeg) := inb_of Sz1 ⟨by decide, by decide⟩
  have hat1 : cl1.slots[((0 : Int32)).toNatClampNeg]? = some (.int c0) := Hs1.at hin1 rfl
  obtain ⟨cl2, Ar2, qk2, Sz2, Ng2, Hs2, Gs2⟩ := id hB
  have hin2 : ¬ ((0 : Int32) < 0 ∨ cl2.slots.size ≤ ((0 : Int32)).toNatClampNeg) := inb_of Sz2 ⟨by decide, by decide⟩
  obtain ⟨T3, h3, X3, e3, W3, st3⟩ := stB X0 hx hZ e0 Ar2 (j := (0 : Int32)) hin2 (g := (mkF m 31 #[rv a0, iv 0, rv a2, iv 0, iv 3, iv 0, iv c0] [(.int (c0).toInt8.toInt32), (.int 0), (.ref a2)])) rfl rfl (hb hby d8_31)
  have N3 := Fr.snoc X3 N0 hge
  have Z3 : n0 ≤ h3.size := Nat.le_trans Z0 (Nat.le_of_eq W3.size.symm)
  have K3 : Keep h0 h3 [a2] := (Keep.refl h0 [a2]).wr W3 (Or.inl (List.mem_of_getElem? (i := 0) rfl))
  have V3 : Arv Z h3 a2 kb .byte (3 : Int32) [(.int (nar .byte (c0).toInt8.toInt32)), (.int (0 : Int32)), (.int (0 : Int32))] (.int (0 : Int32)) := Arv.set Ar2 qk2 Sz2 Ng2 Hs2 Gs2 (fits_nar_byte _) W3 0 rfl (Nat.le_of_ble_eq_true rfl)
  have f4 := (hA.other W3 hne)
  obtain ⟨cl5, Ar5, qk5, Sz5, Ng5, Hs5, Gs5⟩ := id f4
  have hin5 : ¬ ((1 : Int32) < 0 ∨ cl5.slots.size ≤ ((1 : Int32)).toNatClampNeg) := inb_of Sz5 ⟨by decide, by decide⟩
  have hat5 : cl5.slots[((1 : Int32)).toNatClampNeg]? = some (.int c1) := Hs5.at hin5 rfl
  obtain ⟨cl6, Ar6, qk6, Sz6, Ng6, Hs6, Gs6⟩ := id V3
  have hin6 : ¬ ((1 : Int32) < 0 ∨ cl6.slots.size ≤ ((1 : Int32)).toNatClampNeg) := inb_of Sz6 ⟨by decide, by decide⟩
  obtain ⟨T7, h7, X7, e7, W7, st7⟩ := stB X3 hx hZ e3 Ar6 (j := (1 : Int32)) hin6 (g := (mkF m 31 #[rv a0, iv 1, rv a2, iv 1, iv 3, iv 1, iv c1] [(.int (c1).toInt8.toInt32), (.int 1), (.ref a2)])) rfl rfl (hb hby d8_31)
  have N7 := Fr.snoc X7 N3 hge
  have Z7 : n0 ≤ h7.size := Nat.le_trans Z3 (Nat.le_of_eq W7.size.symm)
  have K7 : Keep h0 h7 [a2] := K3.wr W7 (Or.inl (List.mem_of_getElem? (i := 0) rfl))
  have V7 : Arv Z h7 a2 kb .byte (3 : Int32) [(.int (nar .byte (c0).toInt8.toInt32)), (.int (nar .byte (c1).toInt8.toInt32)), (.int (0 : Int32))] (.int (0 : Int32)) := Arv.set Ar6 qk6 Sz6 Ng6 Hs6 Gs6 (fits_nar_byte _) W7 1 rfl (Nat.le_of_ble_eq_true rfl)
  have f8 := (f4.other W7 hne)
  obtain ⟨cl9, Ar9, qk9, Sz9, Ng9, Hs9, Gs9⟩ := id f8
  have hin9 : ¬ ((2 : Int32) < 0 ∨ cl9.slots.size ≤ ((2 : Int32)).toNatClampNeg) := inb_of Sz9 ⟨by decide, by decide⟩
  have hat9 : cl9.slots[((2 : Int32)).toNatClampNeg]? = some (.int c2) := Hs9.at hin9 rfl
  obtain ⟨cl10, Ar10, qk10, Sz10, Ng10, Hs10, Gs10⟩ := id V7
  have hin10 : ¬ ((2 : Int32) < 0 ∨ cl10.slots.size ≤ ((2 : Int32)).toNatClampNeg) := inb_of Sz10 ⟨by decide, by decide⟩
  obtain ⟨T11, h11, X11, e11, W11, st11⟩ := stB X7 hx hZ e7 Ar10 (j := (2 : Int32)) hin10 (g := (mkF m 31 #[rv a0, iv 2, rv a2, iv 2, iv 3, iv 2, iv c2] [(.int (c2).toInt8.toInt32), (.int 2), (.ref a2)])) rfl rfl (hb hby d8_31)
  have N11 := Fr.snoc X11 N7 hge
  have Z11 : n0 ≤ h11.size := Nat.le_trans Z7 (Nat.le_of_eq W11.size.symm)
  have K11 : Keep h0 h11 [a2] := K7.wr W11 (Or.inl (List.mem_of_getElem? (i := 0) rfl))
  have V11 : Arv Z h11 a2 kb .byte (3 : Int32) [(.int (nar .byte (c0).toInt8.toInt32)), (.int (nar .byte (c1).toInt8.toInt32)), (.int (nar .byte (c2).toInt8.toInt32))] (.int (0 : Int32)) := Arv.set Ar10 qk10 Sz10 Ng10 Hs10 Gs10 (fits_nar_byte _) W11 2 rfl (Nat.le_of_ble_eq_true rfl)
  have S12 : ∀ t, oS p e below T11 (mkF m 46 #[rv a0, iv 3, rv a2, iv 3, iv 3, iv 3, iv c2] [(.int 3)]) t → oS p e below s₁ (mkF m 0 #[rv a0, iv 0, rv a2, iv 0, iv 3, .unset, .unset] []) t := fun t k => id (by
    show oS p e below s₁ (mkF m 0 #[rv a0, iv 0, rv a2, iv 0, iv 3, .unset, .unset] []) _
    refine XT.iconstV X0.here hx rfl (0 : Int32) (hb hby d8_0) (by decide) ?_
    refine XS.istore X0.here hx rfl (hb hby d8_1) rfl (l' := #[rv a0, iv 0, rv a2, iv 0, iv 3, iv 0, .unset]) rfl ?_
    refine XS.iload X0.here hx rfl (hb hby d8_3) rfl ?_
    refine XS.iload X0.here hx rfl (hb hby d8_5) rfl ?_
    refine XS.icmpNo X0.here hx rfl (hb hby d8_7) rfl (XT.ii_ge_f (by decide)) ?_
    refine XS.aloadN X0.here hx rfl (hb hby d8_10) rfl rfl ?_
    refine XS.iloadN X0.here hx rfl (hb hby d8_11) rfl ?_
    refine X0.caload hx (j := (0 : Int32)) (v := (.int c0)) (by rw [e0]; exact Ar1.1) (State.isArrayOf_alike hZ.alike Ar1.2.1) Ar1.2.2 hin1 hat1 (g := (mkF m 12 #[rv a0, iv 0, rv a2, iv 0, iv 3, iv 0, .unset] [(.int 0), (.ref a0)])) rfl rfl (hb hby d8_12) _ ?_
    refine XS.istore X0.here hx rfl (hb hby d8_13) rfl (l' := #[rv a0, iv 0, rv a2, iv 0, iv 3, iv 0, iv c0]) rfl ?_
    refine XS.iload X0.here hx rfl (hb hby d8_15) rfl ?_
    refine XT.sipushV X0.here hx rfl (255 : Int32) (hb hby d8_17) (by decide) ?_
    refine XS.icmpYes X0.here hx rfl (pc0 := 20) (pc' := 26) rfl (hb hby d8_20) rfl (XT.ii_le_t hc0) (by decide) (by decide) ?_
    refine XS.aloadN X0.here hx rfl (hb hby d8_26) rfl rfl ?_
    refine XS.iloadN X0.here hx rfl (hb hby d8_27) rfl ?_
    refine XS.iload X0.here hx rfl (hb hby d8_28) rfl ?_
    refine XT.i2b X0.here hx rfl (hb hby d8_30) rfl ?_
    refine st3 _ ?_
    refine XT.iincV X3.here hx rfl (1 : Int32) (hb hby d8_32) (by decide) rfl (l' := #[rv a0, iv 1, rv a2, iv 0, iv 3, iv 0, iv c0]) rfl ?_
    refine XT.iincV X3.here hx rfl (1 : Int32) (hb hby d8_35) (by decide) rfl (l' := #[rv a0, iv 1, rv a2, iv 1, iv 3, iv 0, iv c0]) rfl ?_
    refine XT.iincV X3.here hx rfl (1 : Int32) (hb hby d8_38) (by decide) rfl (l' := #[rv a0, iv 1, rv a2, iv 1, iv 3, iv 1, iv c0]) rfl ?_
    show oS p e below T3 (mkF m 41 #[rv a0, iv 1, rv a2, iv 1, iv 3, iv 1, iv c0] []) _
    refine XS.goto X3.here hx rfl (pc0 := 41) (pc' := 3) rfl (hb hby d8_41) (by decide) (by decide) ?_
    refine XS.iload X3.here hx rfl (hb hby d8_3) rfl ?_
    refine XS.iload X3.here hx rfl (hb hby d8_5) rfl ?_
    refine XS.icmpNo X3.here hx rfl (hb hby d8_7) rfl (XT.ii_ge_f (by decide)) ?_
    refine XS.aloadN X3.here hx rfl (hb hby d8_10) rfl rfl ?_
    refine XS.iloadN X3.here hx rfl (hb hby d8_11) rfl ?_
    refine X3.caload hx (j := (1 : Int32)) (v := (.int c1)) (by rw [e3]; exact Ar5.1) (State.isArrayOf_alike hZ.alike Ar5.2.1) Ar5.2.2 hin5 hat5 (g := (mkF m 12 #[rv a0, iv 1, rv a2, iv 1, iv 3, iv 1, iv c0] [(.int 1), (.ref a0)])) rfl rfl (hb hby d8_12) _ ?_
    refine XS.istore X3.here hx rfl (hb hby d8_13) rfl (l' := #[rv a0, iv 1, rv a2, iv 1, iv 3, iv 1, iv c1]) rfl ?_
    refine XS.iload X3.here hx rfl (hb hby d8_15) rfl ?_
    refine XT.sipushV X3.here hx rfl (255 : Int32) (hb hby d8_17) (by decide) ?_
    refine XS.icmpYes X3.here hx rfl (pc0 := 20) (pc' := 26) rfl (hb hby d8_20) rfl (XT.ii_le_t hc1) (by decide) (by decide) ?_
    refine XS.aloadN X3.here hx rfl (hb hby d8_26) rfl rfl ?_
    refine XS.iloadN X3.here hx rfl (hb hby d8_27) rfl ?_
    refine XS.iload X3.here hx rfl (hb hby d8_28) rfl ?_
    refine XT.i2b X3.here hx rfl (hb hby d8_30) rfl ?_
    refine st7 _ ?_
    refine XT.iincV X7.here hx rfl (1 : Int32) (hb hby d8_32) (by decide) rfl (l' := #[rv a0, iv 2, rv a2, iv 1, iv 3, iv 1, iv c1]) rfl ?_
    refine XT.iincV X7.here hx rfl (1 : Int32) (hb hby d8_35) (by decide) rfl (l' := #[rv a0, iv 2, rv a2, iv 2, iv 3, iv 1, iv c1]) rfl ?_
    refine XT.iincV X7.here hx rfl (1 : Int32) (hb hby d8_38) (by decide) rfl (l' := #[rv a0, iv 2, rv a2, iv 2, iv 3, iv 2, iv c1]) rfl ?_
    refine XS.goto X7.here hx rfl (pc0 := 41) (pc' := 3) rfl (hb hby d8_41) (by decide) (by decide) ?_
    show oS p e below T7 (mkF m 3 #[rv a0, iv 2, rv a2, iv 2, iv 3, iv 2, iv c1] []) _
    refine XS.iload X7.here hx rfl (hb hby d8_3) rfl ?_
    refine XS.iload X7.here hx rfl (hb hby d8_5) rfl ?_
    refine XS.icmpNo X7.here hx rfl (hb hby d8_7) rfl (XT.ii_ge_f (by decide)) ?_
    refine XS.aloadN X7.here hx rfl (hb hby d8_10) rfl rfl ?_
    refine XS.iloadN X7.here hx rfl (hb hby d8_11) rfl ?_
    refine X7.caload hx (j := (2 : Int32)) (v := (.int c2)) (by rw [e7]; exact Ar9.1) (State.isArrayOf_alike hZ.alike Ar9.2.1) Ar9.2.2 hin9 hat9 (g := (mkF m 12 #[rv a0, iv 2, rv a2, iv 2, iv 3, iv 2, iv c1] [(.int 2), (.ref a0)])) rfl rfl (hb hby d8_12) _ ?_
    refine XS.istore X7.here hx rfl (hb hby d8_13) rfl (l' := #[rv a0, iv 2, rv a2, iv 2, iv 3, iv 2, iv c2]) rfl ?_
    refine XS.iload X7.here hx rfl (hb hby d8_15) rfl ?_
    refine XT.sipushV X7.here hx rfl (255 : Int32) (hb hby d8_17) (by decide) ?_
    refine XS.icmpYes X7.here hx rfl (pc0 := 20) (pc' := 26) rfl (hb hby d8_20) rfl (XT.ii_le_t hc2) (by decide) (by decide) ?_
    refine XS.aloadN X7.here hx rfl (hb hby d8_26) rfl rfl ?_
    refine XS.iloadN X7.here hx rfl (hb hby d8_27) rfl ?_
    refine XS.iload X7.here hx rfl (hb hby d8_28) rfl ?_
    refine XT.i2b X7.here hx rfl (hb hby d8_30) rfl ?_
    refine st11 _ ?_
    refine XT.iincV X11.here hx rfl (1 : Int32) (hb hby d8_32) (by decide) rfl (l' := #[rv a0, iv 3, rv a2, iv 2, iv 3, iv 2, iv c2]) rfl ?_
    refine XT.iincV X11.here hx rfl (1 : Int32) (hb hby d8_35) (by decide) rfl (l' := #[rv a0, iv 3, rv a2, iv 3, iv 3, iv 2, iv c2]) rfl ?_
    refine XT.iincV X11.here hx rfl (1 : Int32) (hb hby d8_38) (by decide) rfl (l' := #[rv a0, iv 3, rv a2, iv 3, iv 3, iv 3, iv c2]) rfl ?_
    refine XS.goto X11.here hx rfl (pc0 := 41) (pc' := 3) rfl (hb hby d8_41) (by decide) (by decide) ?_
    refine XS.iload X11.here hx rfl (hb hby d8_3) rfl ?_
    show oS p e below T11 (mkF m 5 #[rv a0, iv 3, rv a2, iv 3, iv 3, iv 3, iv c2] [(.int 3)]) _
    refine XS.iload X11.here hx rfl (hb hby d8_5) rfl ?_
    refine XS.icmpYes X11.here hx rfl (pc0 := 7) (pc' := 44) rfl (hb hby d8_7) rfl (XT.ii_ge_t (by decide)) (by decide) (by decide) ?_
    refine XS.iload X11.here hx rfl (hb hby d8_44) rfl ?_
    exact k)
  obtain ⟨fs, hr, hrun, hended, hW, hsame⟩ := X11.leave (v := some (.int 3)) (fun h => by rw [Bd.returns] at h; cases h)
  refine ⟨_, _, pre0 _ (S12 _ ?_), hrun, hended, _, _, rfl, ?_, ⟨_, rfl⟩, hW, hsame.mono (by decide) (by decide)⟩
  · exact retI X11 hx Bd.returns (hb hby d8_46) hr
  · show QrmCp5_3_3 Z a0 a2 ka kb c0 c1 c2 h0 n0 _ T11.heap _
    rw [e11]
    exact ⟨congrArg (fun z => some (Value.int z)) (by decide), N11, K11, V11⟩
def QrmCp3_3_3 (Z : State) (a0 : Addr) (ka : ClassId) (c0 : Int32) (c1 : Int32) (c2 : Int32) (h0 : Heap) (n0 : Nat) (v : Option Value) (h : Heap) (L : List Loc) : Prop := ∃ (b : Addr) (k : ClassId), v = some (.ref b) ∧ Fr n0 L ∧ h0.size ≤ b ∧ Keep h0 h [] ∧ Arv Z h b k .byte (3 : Int32) [(.int (own_b c0)), (.int (own_b c1)), (.int (own_b c2))] (.int (0 : Int32))
set_option maxRecDepth 65536 in
set_option maxHeartbeats 40000000 in
theorem rmCp3_3_3 (l : Launch) (Z : State) (av0 : Array Value) (hw : ∀ d ∈ tables_1, d.before av0 Z = true) (ws : List Jvm.Cond) (a0 : Addr) (ka : ClassId) (c0 : Int32) (c1 : Int32) (c2 : Int32) (h0 : Heap) (n0 : Nat) (Z0 : n0 ≤ h0.size) (hA : Arv Z h0 a0 ka .char (3 : Int32) [(.int c0), (.int c1), (.int c2)] (.int (0 : Int32))) (hc0 : ¬ (255 : Int32) < c0) (hc1 : ¬ (255 : Int32) < c1) (hc2 : ¬ (255 : Int32) < c2) :
    own_Met l mN21 jdk_52_method_16_code 6 (some (.array .byte)) ws ({ frames := 3, cells := 2, slots := 9, locals := 40 } : Room) #[(.ref a0), (.int 0), (.int 3)] Z h0 (QrmCp3_3_3 Z a0 ka c0 c1 c2 h0 n0) := by
  refine MetFree.of_bodySF (plainFor_of_name pn_StringUTF16) hisR ?_
  intro p e s m args below meth c s₁ Bd hml0 hP hK
  obtain ⟨rfl, hZ, hh⟩ := hP
  have hml : c.maxLocals = 6 := hml0
  obtain ⟨hx, hby, hown, hnm, X0, e0⟩ := own_start Bd hml0 hh
  have N0 := Fr.nil n0
  have pre0 : ∀ t, oS p e below s₁ (mkF m 0 #[rv a0, iv 0, iv 3, .unset, .unset, .unset] []) t → Steps p.tables e below (s₁.setTop (entryFrame m #[(.ref a0), (.int 0), (.int 3)] 6)) t := fun t k => castTop (by first | (simp [entryFrame, mkF, argsToLocals, Value.category]; done) | rfl) k
  obtain ⟨T1, h1, k1, X1, e1, E1, A1, st1⟩ := newP X0 hx hZ (hw _ (own_w 16 rfl)) e0 (g := (mkF m 1 #[rv a0, iv 0, iv 3, .unset, .unset, .unset] [(.int 3)])) rfl (hb hby d7_1) rfl (by decide) (cap := 3) (by decide) (by decide) (by decide) (by decide)
  obtain ⟨b1, g1⟩ : ∃ z, z = h0.size := ⟨_, rfl⟩
  rw [← g1] at A1 st1
  have ne_a0_b1 : a0 ≠ b1 := Nat.ne_of_lt (Nat.lt_of_lt_of_le hA.lt (Nat.le_of_eq g1.symm))
  have ge_b1 : n0 ≤ b1 := Nat.le_trans Z0 (Nat.le_of_eq g1.symm)
  have sz_b1 : h0.size ≤ b1 := Nat.le_of_eq g1.symm
  have Z1 : n0 ≤ h1.size := Nat.le_trans Z0 E1.1
  have K1 : Keep h0 h1 [] := (Keep.refl h0 []).ext E1
  have V1 : Arv Z h1 b1 k1 .byte (3 : Int32) [(.int (0 : Int32)), (.int (0 : Int32)), (.int (0 : Int32))] (.int (0 : Int32)) := (Arv.new A1 (by decide)).pad (pad_rep [] (.int (0 : Int32)) 3)
  have f2 := (hA.ext E1)
  obtain ⟨_, T3, Lc3, X3, hQ3, st3⟩ := own_callS (W := 0) (y := mN16) X1 hx hZ hown (hw _ (own_w 42 rfl)) (hw _ (own_w 43 rfl)) (hw _ (own_w 40 rfl)) (hw _ (own_w 44 rfl)) (by decide) (rmCp5_3_3 l Z av0 hw [] a0 b1 ka k1 c0 c1 c2 h1 n0 Z1 f2 V1 ne_a0_b1 ge_b1 hc0 hc1 hc2) (by decide) (by decide) (g := (mkF m 9 #[rv a0, iv 0, iv 3, rv b1, .unset, .unset] [(.int 3), (.int 0), (.ref b1), (.int 0), (.ref a0)])) rfl (by rw [hml]; rfl) (argsL := [(.ref a0), (.int 0), (.ref b1), (.int 0), (.int 3)]) (rest := []) (lenOf pd__CI_BII_I rfl) rfl (hb hby d7_9) rfl e1 (by decide : 1 + 0 ≤ _) (by decide : 3 + 0 ≤ _)
  obtain ⟨rfl, N3q, K3, V3⟩ := hQ3
  have N3 := Fr.app N0 N3q
  have e3 : T3.heap = T3.heap := rfl
  have Zk3 : n0 ≤ T3.heap.size := Nat.le_trans Z1 K3.1
  have Kk3 : Keep h0 T3.heap [] := K1.trans K3 (allS (Or.inr sz_b1) all0)
  have S4 : ∀ t, oS p e below T3 (mkF m 58 #[rv a0, iv 0, iv 3, rv b1, iv 3, .unset] [(.ref b1)]) t → oS p e below s₁ (mkF m 0 #[rv a0, iv 0, iv 3, .unset, .unset, .unset] []) t := fun t k => id (by
    show oS p e below s₁ (mkF m 0 #[rv a0, iv 0, iv 3, .unset, .unset, .unset] []) _
    refine XS.iloadN X0.here hx rfl (hb hby d7_0) rfl ?_
    refine st1 _ ?_
    refine XS.astoreN X1.here hx rfl (hb hby d7_3) rfl rfl (l' := #[rv a0, iv 0, iv 3, rv b1, .unset, .unset]) rfl ?_
    refine XS.aloadN X1.here hx rfl (hb hby d7_4) rfl rfl ?_
    refine XS.iloadN X1.here hx rfl (hb hby d7_5) rfl ?_
    refine XS.aloadN X1.here hx rfl (hb hby d7_6) rfl rfl ?_
    refine XT.iconstV X1.here hx rfl (0 : Int32) (hb hby d7_7) (by decide) ?_
    refine XS.iloadN X1.here hx rfl (hb hby d7_8) rfl ?_
    refine st3 _ ?_
    refine XS.istore X3.here hx rfl (hb hby d7_12) rfl (l' := #[rv a0, iv 0, iv 3, rv b1, iv 3, .unset]) rfl ?_
    refine XS.iload X3.here hx rfl (hb hby d7_14) rfl ?_
    refine XS.iloadN X3.here hx rfl (hb hby d7_16) rfl ?_
    refine XS.icmpYes X3.here hx rfl (pc0 := 17) (pc' := 57) rfl (hb hby d7_17) rfl (XT.ii_eq_t (by decide)) (by decide) (by decide) ?_
    refine XS.aloadN X3.here hx rfl (hb hby d7_57) rfl rfl ?_
    exact k)
  obtain ⟨fs, hr, hrun, hended, hW, hsame⟩ := X3.leave (v := some (.ref b1)) (fun h => by rw [Bd.returns] at h; cases h)
  refine ⟨_, _, pre0 _ (S4 _ ?_), hrun, hended, _, _, rfl, ?_, ⟨_, rfl⟩, hW, hsame.mono (by decide) (by decide)⟩
  · jvm_step X3.here [X3.here.top, hx, (hb hby d7_58), X3.method', Bd.returns, Value.isRef, FieldType.isReference]
    first | (intro acts; rw [hr _ acts rfl rfl rfl]) | rw [hr _ _ rfl rfl rfl]
    exact Steps.refl _
  · show QrmCp3_3_3 Z a0 ka c0 c1 c2 h0 n0 _ T3.heap _
    rw [e3]
    exact ⟨_, _, rfl, N3, sz_b1, Kk3, V3⟩
def QCp3_3 (Z : State) (c0 : Int32) (c1 : Int32) (c2 : Int32) (h0 : Heap) (n0 : Nat) (v : Option Value) (h : Heap) (L : List Loc) : Prop := (∃ (b : Addr) (k : ClassId), v = some (.ref b) ∧ Fr n0 L ∧ h0.size ≤ b ∧ Keep h0 h [] ∧ Arv Z h b k .byte (3 : Int32) [(.int (own_b c0)), (.int (own_b c1)), (.int (own_b c2))] (.int (0 : Int32)) ∧ ¬ (255 : Int32) < c0 ∧ ¬ (255 : Int32) < c1 ∧ ¬ (255 : Int32) < c2) ∨ (∃ (b : Addr) (k : ClassId), v = some (.ref b) ∧ Fr n0 L ∧ h0.size ≤ b ∧ Keep h0 h [] ∧ Arv Z h b k .byte (6 : Int32) [(.int (own_lo c0)), (.int (own_hi c0)), (.int (own_lo c1)), (.int (own_hi c1)), (.int (own_lo c2)), (.int (own_hi c2))] (.int (0 : Int32)))
theorem rmCp3J_3 (l : Launch) (Z : State) (av0 : Array Value) (hw : ∀ d ∈ tables_1, d.before av0 Z = true) (ws : List Jvm.Cond) (a0 : Addr) (ka : ClassId) (c0 : Int32) (c1 : Int32) (c2 : Int32) (h0 : Heap) (n0 : Nat) (Z0 : n0 ≤ h0.size) (hA : Arv Z h0 a0 ka .char (3 : Int32) [(.int c0), (.int c1), (.int c2)] (.int (0 : Int32))) (hg0 : 0 ≤ c0.toInt ∧ c0.toInt < 65536) (hg1 : 0 ≤ c1.toInt ∧ c1.toInt < 65536) (hg2 : 0 ≤ c2.toInt ∧ c2.toInt < 65536) (sA : Sta Z h0 "java/lang/StringUTF16" "$assertionsDisabled" "Z" (.int (1 : Int32))) (sH : Sta Z h0 "java/lang/StringUTF16" "HI_BYTE_SHIFT" "I" (.int (0 : Int32))) (sL : Sta Z h0 "java/lang/StringUTF16" "LO_BYTE_SHIFT" "I" (.int (8 : Int32))) :
    own_Met l mN21 jdk_52_method_16_code 6 (some (.array .byte)) ws ({ frames := 3, cells := 2, slots := 9, locals := 40 } : Room) #[(.ref a0), (.int (0 : Int32)), (.int (3 : Int32))] Z h0 (QCp3_3 Z c0 c1 c2 h0 n0) := by
  by_cases q0 : (255 : Int32) < c0
  · exact own_weak (rmCp3_3_0 l Z av0 hw ws a0 ka c0 c1 c2 h0 n0 Z0 hA  q0 hg0 sA sH sL) (fun v t L q => Or.inr q)
  by_cases q1 : (255 : Int32) < c1
  · exact own_weak (rmCp3_3_1 l Z av0 hw ws a0 ka c0 c1 c2 h0 n0 Z0 hA q0 q1 hg1 sA sH sL) (fun v t L q => Or.inr q)
  by_cases q2 : (255 : Int32) < c2
  · exact own_weak (rmCp3_3_2 l Z av0 hw ws a0 ka c0 c1 c2 h0 n0 Z0 hA q0 q1 q2 hg2 sA sH sL) (fun v t L q => Or.inr q)
  exact own_weak (rmCp3_3_3 l Z av0 hw ws a0 ka c0 c1 c2 h0 n0 Z0 hA q0 q1 q2) (fun v t L ⟨b, k, z1, z2, z3, z4, z5⟩ => Or.inl ⟨b, k, z1, z2, z3, z4, z5, q0, q1, q2⟩)
def QrmCd_3_0 (Z : State) (a0 : Addr) (ka : ClassId) (vs : List Value) (h0 : Heap) (n0 : Nat) (v : Option Value) (h : Heap) (L : List Loc) : Prop := v = some (.int 0) ∧ Fr n0 L ∧ h = h0
set_option maxRecDepth 65536 in
set_option maxHeartbeats 40000000 in
theorem rmCd_3_0 (l : Launch) (Z : State) (av0 : Array Value) (hw : ∀ d ∈ tables_1, d.before av0 Z = true) (ws : List Jvm.Cond) (a0 : Addr) (ka : ClassId) (vs : List Value) (h0 : Heap) (n0 : Nat) (Z0 : n0 ≤ h0.size) (hA : Arv Z h0 a0 ka .byte (3 : Int32) vs (.int (0 : Int32))) :
    own_Met l mN22 jdk_52_method_15_code 2 (some .byte) ws ({ frames := 0, cells := 0, slots := 0, locals := 0 } : Room) #[(.ref a0), (.int 3)] Z h0 (QrmCd_3_0 Z a0 ka vs h0 n0) := by
  refine MetFree.of_bodySF (plainFor_of_name pn_StringUTF16) hisR ?_
  intro p e s m args below meth c s₁ Bd hml0 hP hK
  obtain ⟨rfl, hZ, hh⟩ := hP
  have hml : c.maxLocals = 2 := hml0
  obtain ⟨hx, hby, hown, hnm, X0, e0⟩ := own_start Bd hml0 hh
  have N0 := Fr.nil n0
  have pre0 : ∀ t, oS p e below s₁ (mkF m 0 #[rv a0, iv 3] []) t → Steps p.tables e below (s₁.setTop (entryFrame m #[(.ref a0), (.int 3)] 2)) t := fun t k => castTop (by first | (simp [entryFrame, mkF, argsToLocals, Value.category]; done) | rfl) k
  obtain ⟨cl1, Ar1, qk1, Sz1, Ng1, Hs1, Gs1⟩ := id hA
  have S2 : ∀ t, oS p e below s₁ (mkF m 8 #[rv a0, iv 3] [(.int 0)]) t → oS p e below s₁ (mkF m 0 #[rv a0, iv 3] []) t := fun t k => id (by
    show oS p e below s₁ (mkF m 0 #[rv a0, iv 3] []) _
    refine XS.iloadN X0.here hx rfl (hb hby d9_0) rfl ?_
    refine XS.aloadN X0.here hx rfl (hb hby d9_1) rfl rfl ?_
    refine X0.arraylength hx (by rw [e0]; exact Ar1.1) (State.isArrayOf_alike hZ.alike Ar1.2.1) (g := (mkF m 2 #[rv a0, iv 3] [(.ref a0), (.int 3)])) rfl rfl (hb hby d9_2) _ ?_
    rw [len_of Sz1 Ng1]
    refine XS.isub X0.here hx rfl (hb hby d9_3) rfl ?_
    refine XT.bipushV X0.here hx rfl (31 : Int32) (hb hby d9_4) (by decide) ?_
    refine XT.iushr X0.here hx rfl (hb hby d9_6) rfl ?_
    refine XT.i2b X0.here hx rfl (hb hby d9_7) rfl ?_
    exact k)
  obtain ⟨fs, hr, hrun, hended, hW, hsame⟩ := X0.leave (v := some (.int (nar .byte (0 : Int32)))) (fun h => by rw [Bd.returns] at h; cases h)
  refine ⟨_, _, pre0 _ (S2 _ ?_), hrun, hended, _, _, rfl, ?_, ⟨_, rfl⟩, hW, hsame.mono (by decide) (by decide)⟩
  · exact retN X0 hx (t := .byte) Bd.returns (by simp) (hb hby d9_8) hr
  · show QrmCd_3_0 Z a0 ka vs h0 n0 _ s₁.heap _
    rw [e0]
    exact ⟨congrArg (fun z => some (Value.int z)) (by decide), N0, rfl⟩
def QrmCd_3_1 (Z : State) (a0 : Addr) (ka : ClassId) (vs : List Value) (h0 : Heap) (n0 : Nat) (v : Option Value) (h : Heap) (L : List Loc) : Prop := v = some (.int 1) ∧ Fr n0 L ∧ h = h0
set_option maxRecDepth 65536 in
set_option maxHeartbeats 40000000 in
theorem rmCd_3_1 (l : Launch) (Z : State) (av0 : Array Value) (hw : ∀ d ∈ tables_1, d.before av0 Z = true) (ws : List Jvm.Cond) (a0 : Addr) (ka : ClassId) (vs : List Value) (h0 : Heap) (n0 : Nat) (Z0 : n0 ≤ h0.size) (hA : Arv Z h0 a0 ka .byte (6 : Int32) vs (.int (0 : Int32))) :
    own_Met l mN22 jdk_52_method_15_code 2 (some .byte) ws ({ frames := 0, cells := 0, slots := 0, locals := 0 } : Room) #[(.ref a0), (.int 3)] Z h0 (QrmCd_3_1 Z a0 ka vs h0 n0) := by
  refine MetFree.of_bodySF (plainFor_of_name pn_StringUTF16) hisR ?_
  intro p e s m args below meth c s₁ Bd hml0 hP hK
  obtain ⟨rfl, hZ, hh⟩ := hP
  have hml : c.maxLocals = 2 := hml0
  obtain ⟨hx, hby, hown, hnm, X0, e0⟩ := own_start Bd hml0 hh
  have N0 := Fr.nil n0
  have pre0 : ∀ t, oS p e below s₁ (mkF m 0 #[rv a0, iv 3] []) t → Steps p.tables e below (s₁.setTop (entryFrame m #[(.ref a0), (.int 3)] 2)) t := fun t k => castTop (by first | (simp [entryFrame, mkF, argsToLocals, Value.category]; done) | rfl) k
  obtain ⟨cl1, Ar1, qk1, Sz1, Ng1, Hs1, Gs1⟩ := id hA
  have S2 : ∀ t, oS p e below s₁ (mkF m 8 #[rv a0, iv 3] [(.int 1)]) t → oS p e below s₁ (mkF m 0 #[rv a0, iv 3] []) t := fun t k => id (by
    show oS p e below s₁ (mkF m 0 #[rv a0, iv 3] []) _
    refine XS.iloadN X0.here hx rfl (hb hby d9_0) rfl ?_
    refine XS.aloadN X0.here hx rfl (hb hby d9_1) rfl rfl ?_
    refine X0.arraylength hx (by rw [e0]; exact Ar1.1) (State.isArrayOf_alike hZ.alike Ar1.2.1) (g := (mkF m 2 #[rv a0, iv 3] [(.ref a0), (.int 3)])) rfl rfl (hb hby d9_2) _ ?_
    rw [len_of Sz1 Ng1]
    refine XS.isub X0.here hx rfl (hb hby d9_3) rfl ?_
    refine XT.bipushV X0.here hx rfl (31 : Int32) (hb hby d9_4) (by decide) ?_
    refine XT.iushr X0.here hx rfl (hb hby d9_6) rfl ?_
    refine XT.i2b X0.here hx rfl (hb hby d9_7) rfl ?_
    exact k)
  obtain ⟨fs, hr, hrun, hended, hW, hsame⟩ := X0.leave (v := some (.int (nar .byte (1 : Int32)))) (fun h => by rw [Bd.returns] at h; cases h)
  refine ⟨_, _, pre0 _ (S2 _ ?_), hrun, hended, _, _, rfl, ?_, ⟨_, rfl⟩, hW, hsame.mono (by decide) (by decide)⟩
  · exact retN X0 hx (t := .byte) Bd.returns (by simp) (hb hby d9_8) hr
  · show QrmCd_3_1 Z a0 ka vs h0 n0 _ s₁.heap _
    rw [e0]
    exact ⟨congrArg (fun z => some (Value.int z)) (by decide), N0, rfl⟩
def QrmSi4_3 (Z : State) (a0 : Addr) (a1 : Addr) (ka : ClassId) (wC : Int32) (c0 : Int32) (c1 : Int32) (c2 : Int32) (h0 : Heap) (n0 : Nat) (v : Option Value) (h : Heap) (L : List Loc) : Prop := v = none ∧ Fr n0 L ∧ Keep h0 h [a0] ∧ own_St3 Z h a0 c0 c1 c2
set_option maxRecDepth 65536 in
set_option maxHeartbeats 40000000 in
theorem rmSi4_3 (l : Launch) (Z : State) (av0 : Array Value) (hw : ∀ d ∈ tables_1, d.before av0 Z = true) (ws : List Jvm.Cond) (a0 : Addr) (a1 : Addr) (ka : ClassId) (wC : Int32) (c0 : Int32) (c1 : Int32) (c2 : Int32) (h0 : Heap) (n0 : Nat) (Z0 : n0 ≤ h0.size) (hE : Exa Z h0 a0 "java/lang/String") (hV : Fld Z h0 a0 "java/lang/String" "value" "[B" .null) (hC : Fld Z h0 a0 "java/lang/String" "coder" "B" (.int (0 : Int32))) (hge : n0 ≤ a0) (hA : Arv Z h0 a1 ka .char (3 : Int32) [(.int c0), (.int c1), (.int c2)] (.int (0 : Int32))) (hS : Sta Z h0 "java/lang/String" "COMPACT_STRINGS" "Z" (.int wC)) (hw0 : ¬ wC = (0 : Int32)) (hg0 : 0 ≤ c0.toInt ∧ c0.toInt < 65536) (hg1 : 0 ≤ c1.toInt ∧ c1.toInt < 65536) (hg2 : 0 ≤ c2.toInt ∧ c2.toInt < 65536) (sA : Sta Z h0 "java/lang/StringUTF16" "$assertionsDisabled" "Z" (.int (1 : Int32))) (sH : Sta Z h0 "java/lang/StringUTF16" "HI_BYTE_SHIFT" "I" (.int (0 : Int32))) (sL : Sta Z h0 "java/lang/StringUTF16" "LO_BYTE_SHIFT" "I" (.int (8 : Int32))) :
    own_Met l mN2 jdk_42_method_149_code 6 none ws ({ frames := 4, cells := 2, slots := 9, locals := 57 } : Room) #[(.ref a0), (.ref a1), (.int 0), (.int 3), .null] Z h0 (QrmSi4_3 Z a0 a1 ka wC c0 c1 c2 h0 n0) := by
  refine MetFree.of_bodySF (plainFor_of_name pn_String) hisR ?_
  intro p e s m args below meth c s₁ Bd hml0 hP hK
  obtain ⟨rfl, hZ, hh⟩ := hP
  have hml : c.maxLocals = 6 := hml0
  obtain ⟨hx, hby, hown, hnm, X0, e0⟩ := own_start Bd hml0 hh
  have N0 := Fr.nil n0
  have pre0 : ∀ t, oS p e below s₁ (mkF m 0 #[rv a0, rv a1, iv 0, iv 3, .val .null, .unset] []) t → Steps p.tables e below (s₁.setTop (entryFrame m #[(.ref a0), (.ref a1), (.int 0), (.int 3), .null] 6)) t := fun t k => castTop (by first | (simp [entryFrame, mkF, argsToLocals, Value.category]; done) | rfl) k
  obtain ⟨T1, X1, e1, st1⟩ := initO X0 hx hZ hown (hw _ (own_w 12 rfl)) (hw _ (own_w 13 rfl)) (hw _ (own_w 14 rfl)) e0 (g := (mkF m 1 #[rv a0, rv a1, iv 0, iv 3, .val .null, .unset] [(.ref a0)])) rfl (by rw [hml]; rfl) rfl (hb hby d2_1) (by decide) (W := 0) (by show 2 * 0 + _ ≤ _; exact Nat.le_of_eq rfl) (by decide)
  obtain ⟨T2, X2, e2, st2⟩ := getS2 X1 hx hZ hown (host := "") (Or.inl (hw _ (own_w 37 rfl))) Via.refl e1 hS (g := (mkF m 27 #[rv a0, rv a1, iv 0, iv 3, .val .null, .unset] [])) rfl (hb hby d2_27)
  obtain ⟨_, T3, Lc3, X3, hQ3, st3⟩ := own_callS (W := 0) (y := mN21) X2 hx hZ hown (hw _ (own_w 38 rfl)) (hw _ (own_w 39 rfl)) (hw _ (own_w 40 rfl)) (hw _ (own_w 41 rfl)) (by decide) (rmCp3J_3 l Z av0 hw [] a1 ka c0 c1 c2 h0 n0 Z0 hA hg0 hg1 hg2 sA sH sL) (by decide) (by decide) (g := (mkF m 36 #[rv a0, rv a1, iv 0, iv 3, .val .null, .unset] [(.int 3), (.int 0), (.ref a1)])) rfl (by rw [hml]; rfl) (argsL := [(.ref a1), (.int 0), (.int 3)]) (rest := []) (lenOf pd__CII_B rfl) rfl (hb hby d2_36) rfl e2 (by decide : 0 + 2 ≤ _) (by decide : 0 + 9 ≤ _)
  rcases hQ3 with ⟨b3, kb3, rfl, N3q, gb3, K3, V3, lt0_3, lt1_3, lt2_3⟩ | ⟨b3, kb3, rfl, N3q, gb3, K3, V3⟩
  · have N3 := Fr.app N0 N3q
    have e3 : T3.heap = T3.heap := rfl
    have ne_a0_b3 : a0 ≠ b3 := Nat.ne_of_lt (Nat.lt_of_lt_of_le hE.lt gb3)
    have ne_a1_b3 : a1 ≠ b3 := Nat.ne_of_lt (Nat.lt_of_lt_of_le hA.lt gb3)
    have ge_b3 : n0 ≤ b3 := Nat.le_trans Z0 gb3
    have sz_b3 : h0.size ≤ b3 := gb3
    have Zk3 : n0 ≤ T3.heap.size := Nat.le_trans Z0 K3.1
    have Kk3 : Keep h0 T3.heap [a0] := (Keep.refl h0 [a0]).trans K3 all0
    obtain ⟨_, T4, Lc4, X4, hQ4, st4⟩ := own_callS (W := 1) (y := mN22) X3 hx hZ hown (hw _ (own_w 45 rfl)) (hw _ (own_w 46 rfl)) (hw _ (own_w 40 rfl)) (hw _ (own_w 47 rfl)) (by decide) (rmCd_3_0 l Z av0 hw [] b3 kb3 [(.int (own_b c0)), (.int (own_b c1)), (.int (own_b c2))] T3.heap n0 Zk3 V3) (by decide) (by decide) (g := (mkF m 45 #[rv a0, rv a1, iv 0, iv 3, .val .null, rv b3] [(.int 3), (.ref b3), (.ref a0)])) rfl (by rw [hml]; rfl) (argsL := [(.ref b3), (.int 3)]) (rest := [(.ref a0)]) (lenOf pd__BI_B rfl) rfl (hb hby d2_45) rfl e3 (by decide : 2 + 0 ≤ _) (by decide : 9 + 0 ≤ _)
    obtain ⟨rfl, N4q, hh4⟩ := hQ4
    have N4 := Fr.app N3 N4q
    have e4 : T4.heap = T3.heap := hh4
    have f5 := (hC.keep K3 nin0)
    have f6 := (hE.keep K3)
    obtain ⟨T7, h7, X7, e7, W7, st7⟩ := putFN X4 hx hZ hown (hw _ (own_w 22 rfl)) Via.refl e4 f5 f6 (Or.inr ⟨(hw _ (own_w 18 rfl)), rfl, hnm⟩) (hw _ (own_w 3 rfl)) (ty := .byte) (v' := (.int 0)) (by decide) rfl rfl (g := (mkF m 48 #[rv a0, rv a1, iv 0, iv 3, .val .null, rv b3] [(.int 0), (.ref a0)])) rfl rfl (hb hby d2_48)
    have N7 := Fr.snoc X7 N4 hge
    have Z7 : n0 ≤ h7.size := Nat.le_trans Zk3 (Nat.le_of_eq W7.size.symm)
    have K7 : Keep h0 h7 [a0] := Kk3.wr W7 (Or.inl (List.mem_of_getElem? (i := 0) rfl))
    have Fw7 := f5.same W7
    have f8 := ((hV.keep K3 nin0).other W7 (Or.inr (slot_ne (Or.inr (hw _ (own_w 17 rfl))) (Or.inr (hw _ (own_w 18 rfl))) (by decide) (t := (.array .byte)) (t' := .byte) (by decide) (by decide))))
    have f9 := (f6.wr W7)
    obtain ⟨T10, h10, X10, e10, W10, st10⟩ := putF X7 hx hZ hown (host := "") (Or.inl (hw _ (own_w 21 rfl))) Via.refl e7 f8 f9 (Or.inr ⟨(hw _ (own_w 17 rfl)), rfl, hnm⟩) (hw _ (own_w 3 rfl)) (ty := (.array .byte)) (by decide) rfl rfl (g := (mkF m 54 #[rv a0, rv a1, iv 0, iv 3, .val .null, rv b3] [(.ref b3), (.ref a0)])) rfl rfl (hb hby d2_54)
    have N10 := Fr.snoc X10 N7 hge
    have Z10 : n0 ≤ h10.size := Nat.le_trans Z7 (Nat.le_of_eq W10.size.symm)
    have K10 : Keep h0 h10 [a0] := K7.wr W10 (Or.inl (List.mem_of_getElem? (i := 0) rfl))
    have Fw10 := f8.same W10
    have S11 : ∀ t, oS p e below T10 (mkF m 57 #[rv a0, rv a1, iv 0, iv 3, .val .null, rv b3] []) t → oS p e below s₁ (mkF m 0 #[rv a0, rv a1, iv 0, iv 3, .val .null, .unset] []) t := fun t k => id (by
      show oS p e below s₁ (mkF m 0 #[rv a0, rv a1, iv 0, iv 3, .val .null, .unset] []) _
      refine XS.aloadN X0.here hx rfl (hb hby d2_0) rfl rfl ?_
      refine st1 _ ?_
      refine XS.iloadN X1.here hx rfl (hb hby d2_4) rfl ?_
      refine XS.ifYes X1.here hx rfl (pc0 := 5) (pc' := 27) rfl (hb hby d2_5) rfl (XT.i0_ne_t (by decide)) (by decide) (by decide) ?_
      refine st2 _ ?_
      refine XS.ifNo X2.here hx rfl (hb hby d2_30) rfl (XT.i0_eq_f hw0) ?_
      refine XS.aloadN X2.here hx rfl (hb hby d2_33) rfl rfl ?_
      refine XS.iloadN X2.here hx rfl (hb hby d2_34) rfl ?_
      refine XS.iloadN X2.here hx rfl (hb hby d2_35) rfl ?_
      refine st3 _ ?_
      refine XS.astore X3.here hx rfl (hb hby d2_39) rfl rfl (l' := #[rv a0, rv a1, iv 0, iv 3, .val .null, rv b3]) rfl ?_
      refine XS.aloadN X3.here hx rfl (hb hby d2_41) rfl rfl ?_
      refine XS.aload X3.here hx rfl (hb hby d2_42) rfl rfl ?_
      refine XS.iloadN X3.here hx rfl (hb hby d2_44) rfl ?_
      refine st4 _ ?_
      refine st7 _ ?_
      refine XS.aloadN X7.here hx rfl (hb hby d2_51) rfl rfl ?_
      refine XS.aload X7.here hx rfl (hb hby d2_52) rfl rfl ?_
      refine st10 _ ?_
      exact k)
    obtain ⟨fs, hr, hrun, hended, hW, hsame⟩ := X10.leave (v := none) (fun _ => rfl)
    refine ⟨_, _, pre0 _ (S11 _ ?_), hrun, hended, _, _, rfl, ?_, ⟨_, rfl⟩, hW, hsame.mono (by decide) (by decide)⟩
    · exact X10.returnOut hx Bd.returns (hb hby d2_57) hr
    have f12 := (Fw7.other W10 (Or.inr (slot_ne (Or.inr (hw _ (own_w 18 rfl))) (Or.inr (hw _ (own_w 17 rfl))) (by decide) (t := .byte) (t' := (.array .byte)) (by decide) (by decide))))
    have f13 := ((V3.other W7 (Ne.symm ne_a0_b3)).other W10 (Ne.symm ne_a0_b3))
    · show QrmSi4_3 Z a0 a1 ka wC c0 c1 c2 h0 n0 _ T10.heap _
      rw [e10]
      exact ⟨rfl, N10, K10, Or.inl ⟨b3, _, Fw10, f12, f13, lt0_3, lt1_3, lt2_3⟩⟩
  · have N3 := Fr.app N0 N3q
    have e3 : T3.heap = T3.heap := rfl
    have ne_a0_b3 : a0 ≠ b3 := Nat.ne_of_lt (Nat.lt_of_lt_of_le hE.lt gb3)
    have ne_a1_b3 : a1 ≠ b3 := Nat.ne_of_lt (Nat.lt_of_lt_of_le hA.lt gb3)
    have ge_b3 : n0 ≤ b3 := Nat.le_trans Z0 gb3
    have sz_b3 : h0.size ≤ b3 := gb3
    have Zk3 : n0 ≤ T3.heap.size := Nat.le_trans Z0 K3.1
    have Kk3 : Keep h0 T3.heap [a0] := (Keep.refl h0 [a0]).trans K3 all0
    obtain ⟨_, T14, Lc14, X14, hQ14, st14⟩ := own_callS (W := 1) (y := mN22) X3 hx hZ hown (hw _ (own_w 45 rfl)) (hw _ (own_w 46 rfl)) (hw _ (own_w 40 rfl)) (hw _ (own_w 47 rfl)) (by decide) (rmCd_3_1 l Z av0 hw [] b3 kb3 [(.int (own_lo c0)), (.int (own_hi c0)), (.int (own_lo c1)), (.int (own_hi c1)), (.int (own_lo c2)), (.int (own_hi c2))] T3.heap n0 Zk3 V3) (by decide) (by decide) (g := (mkF m 45 #[rv a0, rv a1, iv 0, iv 3, .val .null, rv b3] [(.int 3), (.ref b3), (.ref a0)])) rfl (by rw [hml]; rfl) (argsL := [(.ref b3), (.int 3)]) (rest := [(.ref a0)]) (lenOf pd__BI_B rfl) rfl (hb hby d2_45) rfl e3 (by decide : 2 + 0 ≤ _) (by decide : 9 + 0 ≤ _)
    obtain ⟨rfl, N14q, hh14⟩ := hQ14
    have N14 := Fr.app N3 N14q
    have e14 : T14.heap = T3.heap := hh14
    have f15 := (hC.keep K3 nin0)
    have f16 := (hE.keep K3)
    obtain ⟨T17, h17, X17, e17, W17, st17⟩ := putFN X14 hx hZ hown (hw _ (own_w 22 rfl)) Via.refl e14 f15 f16 (Or.inr ⟨(hw _ (own_w 18 rfl)), rfl, hnm⟩) (hw _ (own_w 3 rfl)) (ty := .byte) (v' := (.int 1)) (by decide) rfl rfl (g := (mkF m 48 #[rv a0, rv a1, iv 0, iv 3, .val .null, rv b3] [(.int 1), (.ref a0)])) rfl rfl (hb hby d2_48)
    have N17 := Fr.snoc X17 N14 hge
    have Z17 : n0 ≤ h17.size := Nat.le_trans Zk3 (Nat.le_of_eq W17.size.symm)
    have K17 : Keep h0 h17 [a0] := Kk3.wr W17 (Or.inl (List.mem_of_getElem? (i := 0) rfl))
    have Fw17 := f15.same W17
    have f18 := ((hV.keep K3 nin0).other W17 (Or.inr (slot_ne (Or.inr (hw _ (own_w 17 rfl))) (Or.inr (hw _ (own_w 18 rfl))) (by decide) (t := (.array .byte)) (t' := .byte) (by decide) (by decide))))
    have f19 := (f16.wr W17)
    obtain ⟨T20, h20, X20, e20, W20, st20⟩ := putF X17 hx hZ hown (host := "") (Or.inl (hw _ (own_w 21 rfl))) Via.refl e17 f18 f19 (Or.inr ⟨(hw _ (own_w 17 rfl)), rfl, hnm⟩) (hw _ (own_w 3 rfl)) (ty := (.array .byte)) (by decide) rfl rfl (g := (mkF m 54 #[rv a0, rv a1, iv 0, iv 3, .val .null, rv b3] [(.ref b3), (.ref a0)])) rfl rfl (hb hby d2_54)
    have N20 := Fr.snoc X20 N17 hge
    have Z20 : n0 ≤ h20.size := Nat.le_trans Z17 (Nat.le_of_eq W20.size.symm)
    have K20 : Keep h0 h20 [a0] := K17.wr W20 (Or.inl (List.mem_of_getElem? (i := 0) rfl))
    have Fw20 := f18.same W20
    have S21 : ∀ t, oS p e below T20 (mkF m 57 #[rv a0, rv a1, iv 0, iv 3, .val .null, rv b3] []) t → oS p e below s₁ (mkF m 0 #[rv a0, rv a1, iv 0, iv 3, .val .null, .unset] []) t := fun t k => id (by
      show oS p e below s₁ (mkF m 0 #[rv a0, rv a1, iv 0, iv 3, .val .null, .unset] []) _
      refine XS.aloadN X0.here hx rfl (hb hby d2_0) rfl rfl ?_
      refine st1 _ ?_
      refine XS.iloadN X1.here hx rfl (hb hby d2_4) rfl ?_
      refine XS.ifYes X1.here hx rfl (pc0 := 5) (pc' := 27) rfl (hb hby d2_5) rfl (XT.i0_ne_t (by decide)) (by decide) (by decide) ?_
      refine st2 _ ?_
      refine XS.ifNo X2.here hx rfl (hb hby d2_30) rfl (XT.i0_eq_f hw0) ?_
      refine XS.aloadN X2.here hx rfl (hb hby d2_33) rfl rfl ?_
      refine XS.iloadN X2.here hx rfl (hb hby d2_34) rfl ?_
      refine XS.iloadN X2.here hx rfl (hb hby d2_35) rfl ?_
      refine st3 _ ?_
      refine XS.astore X3.here hx rfl (hb hby d2_39) rfl rfl (l' := #[rv a0, rv a1, iv 0, iv 3, .val .null, rv b3]) rfl ?_
      refine XS.aloadN X3.here hx rfl (hb hby d2_41) rfl rfl ?_
      refine XS.aload X3.here hx rfl (hb hby d2_42) rfl rfl ?_
      refine XS.iloadN X3.here hx rfl (hb hby d2_44) rfl ?_
      refine st14 _ ?_
      refine st17 _ ?_
      refine XS.aloadN X17.here hx rfl (hb hby d2_51) rfl rfl ?_
      refine XS.aload X17.here hx rfl (hb hby d2_52) rfl rfl ?_
      refine st20 _ ?_
      exact k)
    obtain ⟨fs, hr, hrun, hended, hW, hsame⟩ := X20.leave (v := none) (fun _ => rfl)
    refine ⟨_, _, pre0 _ (S21 _ ?_), hrun, hended, _, _, rfl, ?_, ⟨_, rfl⟩, hW, hsame.mono (by decide) (by decide)⟩
    · exact X20.returnOut hx Bd.returns (hb hby d2_57) hr
    have f22 := (Fw17.other W20 (Or.inr (slot_ne (Or.inr (hw _ (own_w 18 rfl))) (Or.inr (hw _ (own_w 17 rfl))) (by decide) (t := .byte) (t' := (.array .byte)) (by decide) (by decide))))
    have f23 := ((V3.other W17 (Ne.symm ne_a0_b3)).other W20 (Ne.symm ne_a0_b3))
    · show QrmSi4_3 Z a0 a1 ka wC c0 c1 c2 h0 n0 _ T20.heap _
      rw [e20]
      exact ⟨rfl, N20, K20, Or.inr ⟨b3, _, Fw20, f22, f23⟩⟩
def QrmSi2_3 (Z : State) (a0 : Addr) (a1 : Addr) (ka : ClassId) (wC : Int32) (c0 : Int32) (c1 : Int32) (c2 : Int32) (h0 : Heap) (n0 : Nat) (v : Option Value) (h : Heap) (L : List Loc) : Prop := v = none ∧ Fr n0 L ∧ Keep h0 h [a0] ∧ own_St3 Z h a0 c0 c1 c2
set_option maxRecDepth 65536 in
set_option maxHeartbeats 40000000 in
theorem rmSi2_3 (l : Launch) (Z : State) (av0 : Array Value) (hw : ∀ d ∈ tables_1, d.before av0 Z = true) (ws : List Jvm.Cond) (a0 : Addr) (a1 : Addr) (ka : ClassId) (wC : Int32) (c0 : Int32) (c1 : Int32) (c2 : Int32) (h0 : Heap) (n0 : Nat) (Z0 : n0 ≤ h0.size) (hE : Exa Z h0 a0 "java/lang/String") (hV : Fld Z h0 a0 "java/lang/String" "value" "[B" .null) (hC : Fld Z h0 a0 "java/lang/String" "coder" "B" (.int (0 : Int32))) (hge : n0 ≤ a0) (hA : Arv Z h0 a1 ka .char (3 : Int32) [(.int c0), (.int c1), (.int c2)] (.int (0 : Int32))) (hS : Sta Z h0 "java/lang/String" "COMPACT_STRINGS" "Z" (.int wC)) (hw0 : ¬ wC = (0 : Int32)) (hg0 : 0 ≤ c0.toInt ∧ c0.toInt < 65536) (hg1 : 0 ≤ c1.toInt ∧ c1.toInt < 65536) (hg2 : 0 ≤ c2.toInt ∧ c2.toInt < 65536) (sA : Sta Z h0 "java/lang/StringUTF16" "$assertionsDisabled" "Z" (.int (1 : Int32))) (sH : Sta Z h0 "java/lang/StringUTF16" "HI_BYTE_SHIFT" "I" (.int (0 : Int32))) (sL : Sta Z h0 "java/lang/StringUTF16" "LO_BYTE_SHIFT" "I" (.int (8 : Int32))) :
    own_Met l mN3 jdk_42_method_3_code 2 none ws ({ frames := 5, cells := 2, slots := 9, locals := 74 } : Room) #[(.ref a0), (.ref a1)] Z h0 (QrmSi2_3 Z a0 a1 ka wC c0 c1 c2 h0 n0) := by
  refine MetFree.of_bodySF (plainFor_of_name pn_String) hisR ?_
  intro p e s m args below meth c s₁ Bd hml0 hP hK
  obtain ⟨rfl, hZ, hh⟩ := hP
  have hml : c.maxLocals = 2 := hml0
  obtain ⟨hx, hby, hown, hnm, X0, e0⟩ := own_start Bd hml0 hh
  have N0 := Fr.nil n0
  have pre0 : ∀ t, oS p e below s₁ (mkF m 0 #[rv a0, rv a1] []) t → Steps p.tables e below (s₁.setTop (entryFrame m #[(.ref a0), (.ref a1)] 2)) t := fun t k => castTop (by first | (simp [entryFrame, mkF, argsToLocals, Value.category]; done) | rfl) k
  obtain ⟨cl1, Ar1, qk1, Sz1, Ng1, Hs1, Gs1⟩ := id hA
  obtain ⟨_, T2, Lc2, X2, hQ2, st2⟩ := own_special (W := 0) (y := mN2) X0 hx hZ rfl hown (hw _ (own_w 8 rfl)) (hw _ (own_w 9 rfl)) (hw _ (own_w 11 rfl)) (hw _ (own_w 4 rfl)) (by decide) (rmSi4_3 l Z av0 hw [] a0 a1 ka wC c0 c1 c2 h0 n0 Z0 hE hV hC hge hA hS hw0 hg0 hg1 hg2 sA sH sL) (by decide) (by decide) (g := (mkF m 6 #[rv a0, rv a1] [.null, (.int 3), (.int 0), (.ref a1), (.ref a0)])) rfl (by rw [hml]; rfl) (a := a0) (argsL := [(.ref a1), (.int 0), (.int 3), .null]) (rest := []) (lenOf pd__CIILjava_lang_Void_V rfl) rfl (hb hby d1_6) rfl e0 (by decide : 0 + 2 ≤ _) (by decide : 0 + 9 ≤ _)
  obtain ⟨rfl, N2q, K2, St2⟩ := hQ2
  have N2 := Fr.app N0 N2q
  have e2 : T2.heap = T2.heap := rfl
  have Zk2 : n0 ≤ T2.heap.size := Nat.le_trans Z0 K2.1
  have Kk2 : Keep h0 T2.heap [a0] := (Keep.refl h0 [a0]).trans K2 (allS (Or.inl (List.mem_of_getElem? (i := 0) rfl)) all0)
  have S3 : ∀ t, oS p e below T2 (mkF m 9 #[rv a0, rv a1] []) t → oS p e below s₁ (mkF m 0 #[rv a0, rv a1] []) t := fun t k => id (by
    show oS p e below s₁ (mkF m 0 #[rv a0, rv a1] []) _
    refine XS.aloadN X0.here hx rfl (hb hby d1_0) rfl rfl ?_
    refine XS.aloadN X0.here hx rfl (hb hby d1_1) rfl rfl ?_
    refine XT.iconstV X0.here hx rfl (0 : Int32) (hb hby d1_2) (by decide) ?_
    refine XS.aloadN X0.here hx rfl (hb hby d1_3) rfl rfl ?_
    refine X0.arraylength hx (by rw [e0]; exact Ar1.1) (State.isArrayOf_alike hZ.alike Ar1.2.1) (g := (mkF m 4 #[rv a0, rv a1] [(.ref a1), (.int 0), (.ref a1), (.ref a0)])) rfl rfl (hb hby d1_4) _ ?_
    rw [len_of Sz1 Ng1]
    refine XS.aconstNull X0.here hx rfl (hb hby d1_5) ?_
    refine st2 _ ?_
    exact k)
  obtain ⟨fs, hr, hrun, hended, hW, hsame⟩ := X2.leave (v := none) (fun _ => rfl)
  refine ⟨_, _, pre0 _ (S3 _ ?_), hrun, hended, _, _, rfl, ?_, ⟨_, rfl⟩, hW, hsame.mono (by decide) (by decide)⟩
  · exact X2.returnOut hx Bd.returns (hb hby d1_9) hr
  · show QrmSi2_3 Z a0 a1 ka wC c0 c1 c2 h0 n0 _ T2.heap _
    rw [e2]
    exact ⟨rfl, N2, Kk2, St2⟩
set_option maxRecDepth 65536 in
set_option maxHeartbeats 40000000 in
theorem rm0_3 (l : Launch) (Z : State) (av0 : Array Value) (hw : ∀ d ∈ tables_1, d.before av0 Z = true) (ws : List Jvm.Cond) (p0 : Int32) (p1 : Int32) (p2 : Int32) (p3 : Int32) (p4 : Int32) (wC : Int32) (fm : Value) (h0 : Heap) (n0 : Nat) (Z0 : n0 ≤ h0.size) (hS : Sta Z h0 "java/lang/String" "COMPACT_STRINGS" "Z" (.int wC)) (hw0 : ¬ wC = (0 : Int32)) (hfm : fm.isRef = true) (hF : Sta Z h0 "jdk/internal/util/Preconditions" "SIOOBE_FORMATTER" "Ljava/util/function/BiFunction;" fm) (sA : Sta Z h0 "java/lang/StringUTF16" "$assertionsDisabled" "Z" (.int (1 : Int32))) (sH : Sta Z h0 "java/lang/StringUTF16" "HI_BYTE_SHIFT" "I" (.int (0 : Int32))) (sL : Sta Z h0 "java/lang/StringUTF16" "LO_BYTE_SHIFT" "I" (.int (8 : Int32))) (hkp : ∀ (b : Addr) (cl : Cell), Z.heap[b]? = some cl → h0[b]? = some cl) (hcH : Jvm.Lit.constHeld Z "java/lang/String" 7) (hcw : Jvm.Lit.compactW.before av0 Z = true) (hk : own_P p0 (5 : Int32) = (3 : Int32)) :
    MetFree l x (head1 (Jvm.Cond.code x code maxLocals ret :: ws) room_1) (fun aU U => aU = #[(.int p0), (.int p1), (.int p2), (.int p3), (.int p4)] ∧ Z.Warmed39 U.vm ∧ U.heap = h0 ∧ IB Z U.vm []) (fun _ _ _ _ _ => True) (fun _ U oU U' => ∃ vU LU, oU = .returned vU ∧ Qrm0 Z p0 p1 p2 p3 p4 wC fm h0 n0 vU U'.heap LU ∧ ReturnedEndW U oU U' LU room_1.cells room_1.slots) := by
  refine MetFree.of_bodySF (plainFor_of_name pn_XsNamesIsNamespaceNamePinLaw) hisR ?_
  intro p e s m args below meth c s₁ Bd hml0 hP hK
  obtain ⟨rfl, hZ, hh, hI⟩ := hP
  have hml : c.maxLocals = 13 := hml0
  obtain ⟨hx, hby, hown, hnm, X0, e0⟩ := own_start Bd hml0 hh
  have N0 := Fr.nil n0
  have pre0 : ∀ t, oS p e below s₁ (mkF m 0 #[iv p0, iv p1, iv p2, iv p3, iv p4, .unset, .unset, .unset, .unset, .unset, .unset, .unset, .unset] []) t → Steps p.tables e below (s₁.setTop (entryFrame m #[(.int p0), (.int p1), (.int p2), (.int p3), (.int p4)] maxLocals)) t := fun t k => castTop (by first | (simp [entryFrame, mkF, argsToLocals, Value.category, maxLocals]; done) | rfl) k
  obtain ⟨T1, h1, k1, X1, e1, E1, A1, st1⟩ := newP X0 hx hZ (hw _ (own_w 1 rfl)) e0 (g := (mkF m 27 #[iv p0, iv p1, iv p2, iv p3, iv p4, iv 3, iv (own_c p1), iv (own_c p2), iv (own_c p3), iv (own_c p4), .unset, .unset, .unset] [(.int 3)])) rfl (hb hby at_27) rfl (by decide) (cap := 3) (by decide) (by decide) (by decide) (by decide)
  obtain ⟨b1, g1⟩ : ∃ z, z = h0.size := ⟨_, rfl⟩
  rw [← g1] at A1 st1
  have ge_b1 : n0 ≤ b1 := Nat.le_trans Z0 (Nat.le_of_eq g1.symm)
  have sz_b1 : h0.size ≤ b1 := Nat.le_of_eq g1.symm
  have Z1 : n0 ≤ h1.size := Nat.le_trans Z0 E1.1
  have K1 : Keep h0 h1 [] := (Keep.refl h0 []).ext E1
  have V1 : Arv Z h1 b1 k1 .char (3 : Int32) [(.int (0 : Int32)), (.int (0 : Int32)), (.int (0 : Int32))] (.int (0 : Int32)) := (Arv.new A1 (by decide)).pad (pad_rep [] (.int (0 : Int32)) 3)
  obtain ⟨cl2, Ar2, qk2, Sz2, Ng2, Hs2, Gs2⟩ := id V1
  have hin2 : ¬ ((0 : Int32) < 0 ∨ cl2.slots.size ≤ ((0 : Int32)).toNatClampNeg) := inb_of Sz2 ⟨by decide, by decide⟩
  obtain ⟨T3, h3, X3, e3, W3, st3⟩ := stC X1 hx hZ e1 Ar2 (j := (0 : Int32)) hin2 (g := (mkF m 41 #[iv p0, iv p1, iv p2, iv p3, iv p4, iv 3, iv (own_c p1), iv (own_c p2), iv (own_c p3), iv (own_c p4), rv b1, .unset, .unset] [(.int (own_c p1)), (.int 0), (.ref b1)])) rfl rfl (hb hby at_41)
  have N3 := Fr.snoc X3 N0 ge_b1
  have Z3 : n0 ≤ h3.size := Nat.le_trans Z1 (Nat.le_of_eq W3.size.symm)
  have K3 : Keep h0 h3 [] := K1.wr W3 (Or.inr sz_b1)
  rw [own_nc] at W3
  have V3 : Arv Z h3 b1 k1 .char (3 : Int32) [(.int (own_c p1)), (.int (0 : Int32)), (.int (0 : Int32))] (.int (0 : Int32)) := Arv.set Ar2 qk2 Sz2 Ng2 Hs2 Gs2 (own_fc _) W3 0 rfl (Nat.le_of_ble_eq_true rfl)
  obtain ⟨cl4, Ar4, qk4, Sz4, Ng4, Hs4, Gs4⟩ := id V3
  have hin4 : ¬ ((1 : Int32) < 0 ∨ cl4.slots.size ≤ ((1 : Int32)).toNatClampNeg) := inb_of Sz4 ⟨by decide, by decide⟩
  obtain ⟨T5, h5, X5, e5, W5, st5⟩ := stC X3 hx hZ e3 Ar4 (j := (1 : Int32)) hin4 (g := (mkF m 53 #[iv p0, iv p1, iv p2, iv p3, iv p4, iv 3, iv (own_c p1), iv (own_c p2), iv (own_c p3), iv (own_c p4), rv b1, .unset, .unset] [(.int (own_c p2)), (.int 1), (.ref b1)])) rfl rfl (hb hby at_53)
  have N5 := Fr.snoc X5 N3 ge_b1
  have Z5 : n0 ≤ h5.size := Nat.le_trans Z3 (Nat.le_of_eq W5.size.symm)
  have K5 : Keep h0 h5 [] := K3.wr W5 (Or.inr sz_b1)
  rw [own_nc] at W5
  have V5 : Arv Z h5 b1 k1 .char (3 : Int32) [(.int (own_c p1)), (.int (own_c p2)), (.int (0 : Int32))] (.int (0 : Int32)) := Arv.set Ar4 qk4 Sz4 Ng4 Hs4 Gs4 (own_fc _) W5 1 rfl (Nat.le_of_ble_eq_true rfl)
  obtain ⟨cl6, Ar6, qk6, Sz6, Ng6, Hs6, Gs6⟩ := id V5
  have hin6 : ¬ ((2 : Int32) < 0 ∨ cl6.slots.size ≤ ((2 : Int32)).toNatClampNeg) := inb_of Sz6 ⟨by decide, by decide⟩
  obtain ⟨T7, h7, X7, e7, W7, st7⟩ := stC X5 hx hZ e5 Ar6 (j := (2 : Int32)) hin6 (g := (mkF m 65 #[iv p0, iv p1, iv p2, iv p3, iv p4, iv 3, iv (own_c p1), iv (own_c p2), iv (own_c p3), iv (own_c p4), rv b1, .unset, .unset] [(.int (own_c p3)), (.int 2), (.ref b1)])) rfl rfl (hb hby at_65)
  have N7 := Fr.snoc X7 N5 ge_b1
  have Z7 : n0 ≤ h7.size := Nat.le_trans Z5 (Nat.le_of_eq W7.size.symm)
  have K7 : Keep h0 h7 [] := K5.wr W7 (Or.inr sz_b1)
  rw [own_nc] at W7
  have V7 : Arv Z h7 b1 k1 .char (3 : Int32) [(.int (own_c p1)), (.int (own_c p2)), (.int (own_c p3))] (.int (0 : Int32)) := Arv.set Ar6 qk6 Sz6 Ng6 Hs6 Gs6 (own_fc _) W7 2 rfl (Nat.le_of_ble_eq_true rfl)
  obtain ⟨T8, h8, X8, e8, E8, A8, D8, -, st8⟩ := newO X7 hx hZ hown (hw _ (own_w 2 rfl)) (hw _ (own_w 3 rfl)) (hw _ (own_w 4 rfl)) e7 (g := (mkF m 78 #[iv p0, iv p1, iv p2, iv p3, iv p4, iv 3, iv (own_c p1), iv (own_c p2), iv (own_c p3), iv (own_c p4), rv b1, .unset, .unset] [])) rfl (hb hby at_78) (by decide) (by decide)
  obtain ⟨b8, g8⟩ : ∃ z, z = h7.size := ⟨_, rfl⟩
  rw [← g8] at A8 D8 st8
  have ne_b1_b8 : b1 ≠ b8 := Nat.ne_of_lt (Nat.lt_of_lt_of_le V7.lt (Nat.le_of_eq g8.symm))
  have ge_b8 : n0 ≤ b8 := Nat.le_trans Z7 (Nat.le_of_eq g8.symm)
  have sz_b8 : h0.size ≤ b8 := Nat.le_trans K7.1 (Nat.le_of_eq g8.symm)
  have Z8 : n0 ≤ h8.size := Nat.le_trans Z7 E8.1
  have K8 : Keep h0 h8 [] := K7.ext E8
  have F8_value : Fld Z h8 b8 "java/lang/String" "value" "[B" .null := D8 (Or.inr (hw _ (own_w 17 rfl))) (ty := (.array .byte)) (by decide)
  have F8_coder : Fld Z h8 b8 "java/lang/String" "coder" "B" (.int 0) := D8 (Or.inr (hw _ (own_w 18 rfl))) (ty := .byte) (by decide)
  have f9 := (V7.ext E8)
  have f10 := (((((hS.ext E1).wr W3).wr W5).wr W7).ext E8)
  have f11 := (((((sA.ext E1).wr W3).wr W5).wr W7).ext E8)
  have f12 := (((((sH.ext E1).wr W3).wr W5).wr W7).ext E8)
  have f13 := (((((sL.ext E1).wr W3).wr W5).wr W7).ext E8)
  obtain ⟨_, T14, Lc14, X14, hQ14, st14⟩ := own_special (W := 1) (y := mN3) X8 hx hZ rfl hown (hw _ (own_w 5 rfl)) (hw _ (own_w 6 rfl)) (hw _ (own_w 7 rfl)) (hw _ (own_w 4 rfl)) (by decide) (rmSi2_3 l Z av0 hw [] b8 b1 k1 wC (own_c p1) (own_c p2) (own_c p3) h8 n0 Z8 A8 F8_value F8_coder ge_b8 f9 f10 hw0 (own_cr p1) (own_cr p2) (own_cr p3) f11 f12 f13) (by decide) (by decide) (g := (mkF m 84 #[iv p0, iv p1, iv p2, iv p3, iv p4, iv 3, iv (own_c p1), iv (own_c p2), iv (own_c p3), iv (own_c p4), rv b1, .unset, .unset] [(.ref b1), (.ref b8), (.ref b8)])) rfl (by rw [hml]; rfl) (a := b8) (argsL := [(.ref b1)]) (rest := [(.ref b8)]) (lenOf pd__C_V rfl) rfl (hb hby at_84) rfl e8 (by decide : 2 + 2 ≤ _) (by decide : 7 + 9 ≤ _)
  obtain ⟨rfl, N14q, K14, St14⟩ := hQ14
  have N14 := Fr.app N7 N14q
  have e14 : T14.heap = T14.heap := rfl
  have Zk14 : n0 ≤ T14.heap.size := Nat.le_trans Z8 K14.1
  have Kk14 : Keep h0 T14.heap [] := K8.trans K14 (allS (Or.inr sz_b8) all0)
  obtain ⟨_, T15, Lc15, X15, hQ15, st15⟩ := own_callS (W := 0) (y := mN1) X14 hx hZ hown (hw _ (own_w 48 rfl)) (hw _ (own_w 49 rfl)) (hw _ (own_w 50 rfl)) (hw _ (own_w 51 rfl)) (by decide) (rmA l Z av0 hw [] (own_c p1) T14.heap n0 Zk14 ) (by decide) (by decide) (g := (mkF m 97 #[iv p0, iv p1, iv p2, iv p3, iv p4, iv 3, iv (own_c p1), iv (own_c p2), iv (own_c p3), iv (own_c p4), rv b1, rv b8, .unset] [(.int (own_c p1))])) rfl (by rw [hml]; rfl) (argsL := [(.int (own_c p1))]) (rest := []) (lenOf pd__C_Z rfl) rfl (hb hby at_97) rfl e14 (by decide : 4 + 0 ≤ _) (by decide : 16 + 0 ≤ _)
  obtain ⟨rfl, N15q, hh15⟩ := hQ15
  have N15 := Fr.app N14 N15q
  have e15 : T15.heap = T14.heap := hh15
  have S16 : ∀ t, oS p e below T15 (mkF m 100 #[iv p0, iv p1, iv p2, iv p3, iv p4, iv 3, iv (own_c p1), iv (own_c p2), iv (own_c p3), iv (own_c p4), rv b1, rv b8, .unset] [(.int (own_al (own_c p1)))]) t → oS p e below s₁ (mkF m 0 #[iv p0, iv p1, iv p2, iv p3, iv p4, .unset, .unset, .unset, .unset, .unset, .unset, .unset, .unset] []) t := fun t k => id (by
    show oS p e below s₁ (mkF m 0 #[iv p0, iv p1, iv p2, iv p3, iv p4, .unset, .unset, .unset, .unset, .unset, .unset, .unset, .unset] []) _
    refine XS.iloadN X0.here hx rfl (hb hby at_0) rfl ?_
    refine X0.ldcI hx hown (mvT hZ (hw _ (own_w 0 rfl))) rfl (hb hby at_1) ?_
    refine XS.iand X0.here hx rfl (hb hby at_3) rfl ?_
    refine XT.iconstV X0.here hx rfl (5 : Int32) (hb hby at_4) (by decide) ?_
    refine XS.irem X0.here hx rfl (hb hby at_5) rfl (by decide) ?_
    show oS p e below s₁ (mkF m 6 #[iv p0, iv p1, iv p2, iv p3, iv p4, .unset, .unset, .unset, .unset, .unset, .unset, .unset, .unset] [(.int ((p0 &&& (2147483647 : Int32)) - ((p0 &&& (2147483647 : Int32)) / (5 : Int32)) * (5 : Int32)))]) _
    show Steps p.tables e below (s₁.setTop (mkF m 6 #[iv p0, iv p1, iv p2, iv p3, iv p4, .unset, .unset, .unset, .unset, .unset, .unset, .unset, .unset] [(.int (own_P p0 (5 : Int32)))])) _
    rw [hk]
    show oS p e below s₁ (mkF m 6 #[iv p0, iv p1, iv p2, iv p3, iv p4, .unset, .unset, .unset, .unset, .unset, .unset, .unset, .unset] [(.int 3)]) _
    refine XS.istore X0.here hx rfl (hb hby at_6) rfl (l' := #[iv p0, iv p1, iv p2, iv p3, iv p4, iv 3, .unset, .unset, .unset, .unset, .unset, .unset, .unset]) rfl ?_
    refine XS.iloadN X0.here hx rfl (hb hby at_8) rfl ?_
    refine XT.i2c X0.here hx rfl (hb hby at_9) rfl ?_
    show oS p e below s₁ (mkF m 10 #[iv p0, iv p1, iv p2, iv p3, iv p4, iv 3, .unset, .unset, .unset, .unset, .unset, .unset, .unset] [(.int (p1).toUInt32.toUInt16.toUInt32.toInt32)]) _
    skip
    show oS p e below s₁ (mkF m 10 #[iv p0, iv p1, iv p2, iv p3, iv p4, iv 3, .unset, .unset, .unset, .unset, .unset, .unset, .unset] [(.int (own_c p1))]) _
    refine XS.istore X0.here hx rfl (hb hby at_10) rfl (l' := #[iv p0, iv p1, iv p2, iv p3, iv p4, iv 3, iv (own_c p1), .unset, .unset, .unset, .unset, .unset, .unset]) rfl ?_
    refine XS.iloadN X0.here hx rfl (hb hby at_12) rfl ?_
    refine XT.i2c X0.here hx rfl (hb hby at_13) rfl ?_
    show oS p e below s₁ (mkF m 14 #[iv p0, iv p1, iv p2, iv p3, iv p4, iv 3, iv (own_c p1), .unset, .unset, .unset, .unset, .unset, .unset] [(.int (p2).toUInt32.toUInt16.toUInt32.toInt32)]) _
    skip
    show oS p e below s₁ (mkF m 14 #[iv p0, iv p1, iv p2, iv p3, iv p4, iv 3, iv (own_c p1), .unset, .unset, .unset, .unset, .unset, .unset] [(.int (own_c p2))]) _
    refine XS.istore X0.here hx rfl (hb hby at_14) rfl (l' := #[iv p0, iv p1, iv p2, iv p3, iv p4, iv 3, iv (own_c p1), iv (own_c p2), .unset, .unset, .unset, .unset, .unset]) rfl ?_
    refine XS.iloadN X0.here hx rfl (hb hby at_16) rfl ?_
    refine XT.i2c X0.here hx rfl (hb hby at_17) rfl ?_
    show oS p e below s₁ (mkF m 18 #[iv p0, iv p1, iv p2, iv p3, iv p4, iv 3, iv (own_c p1), iv (own_c p2), .unset, .unset, .unset, .unset, .unset] [(.int (p3).toUInt32.toUInt16.toUInt32.toInt32)]) _
    skip
    show oS p e below s₁ (mkF m 18 #[iv p0, iv p1, iv p2, iv p3, iv p4, iv 3, iv (own_c p1), iv (own_c p2), .unset, .unset, .unset, .unset, .unset] [(.int (own_c p3))]) _
    refine XS.istore X0.here hx rfl (hb hby at_18) rfl (l' := #[iv p0, iv p1, iv p2, iv p3, iv p4, iv 3, iv (own_c p1), iv (own_c p2), iv (own_c p3), .unset, .unset, .unset, .unset]) rfl ?_
    refine XS.iload X0.here hx rfl (hb hby at_20) rfl ?_
    show oS p e below s₁ (mkF m 22 #[iv p0, iv p1, iv p2, iv p3, iv p4, iv 3, iv (own_c p1), iv (own_c p2), iv (own_c p3), .unset, .unset, .unset, .unset] [(.int p4)]) _
    refine XT.i2c X0.here hx rfl (hb hby at_22) rfl ?_
    show oS p e below s₁ (mkF m 23 #[iv p0, iv p1, iv p2, iv p3, iv p4, iv 3, iv (own_c p1), iv (own_c p2), iv (own_c p3), .unset, .unset, .unset, .unset] [(.int (p4).toUInt32.toUInt16.toUInt32.toInt32)]) _
    skip
    show oS p e below s₁ (mkF m 23 #[iv p0, iv p1, iv p2, iv p3, iv p4, iv 3, iv (own_c p1), iv (own_c p2), iv (own_c p3), .unset, .unset, .unset, .unset] [(.int (own_c p4))]) _
    refine XS.istore X0.here hx rfl (hb hby at_23) rfl (l' := #[iv p0, iv p1, iv p2, iv p3, iv p4, iv 3, iv (own_c p1), iv (own_c p2), iv (own_c p3), iv (own_c p4), .unset, .unset, .unset]) rfl ?_
    refine XS.iload X0.here hx rfl (hb hby at_25) rfl ?_
    refine st1 _ ?_
    refine XS.astore X1.here hx rfl (hb hby at_29) rfl rfl (l' := #[iv p0, iv p1, iv p2, iv p3, iv p4, iv 3, iv (own_c p1), iv (own_c p2), iv (own_c p3), iv (own_c p4), rv b1, .unset, .unset]) rfl ?_
    refine XS.iload X1.here hx rfl (hb hby at_31) rfl ?_
    refine XS.ifNo X1.here hx rfl (hb hby at_33) rfl (XT.i0_le_f (by decide)) ?_
    refine XS.aload X1.here hx rfl (hb hby at_36) rfl rfl ?_
    refine XT.iconstV X1.here hx rfl (0 : Int32) (hb hby at_38) (by decide) ?_
    refine XS.iload X1.here hx rfl (hb hby at_39) rfl ?_
    refine st3 _ ?_
    refine XS.iload X3.here hx rfl (hb hby at_42) rfl ?_
    refine XT.iconstV X3.here hx rfl (1 : Int32) (hb hby at_44) (by decide) ?_
    refine XS.icmpNo X3.here hx rfl (hb hby at_45) rfl (XT.ii_le_f (by decide)) ?_
    refine XS.aload X3.here hx rfl (hb hby at_48) rfl rfl ?_
    refine XT.iconstV X3.here hx rfl (1 : Int32) (hb hby at_50) (by decide) ?_
    refine XS.iload X3.here hx rfl (hb hby at_51) rfl ?_
    refine st5 _ ?_
    refine XS.iload X5.here hx rfl (hb hby at_54) rfl ?_
    show oS p e below T5 (mkF m 56 #[iv p0, iv p1, iv p2, iv p3, iv p4, iv 3, iv (own_c p1), iv (own_c p2), iv (own_c p3), iv (own_c p4), rv b1, .unset, .unset] [(.int 3)]) _
    refine XT.iconstV X5.here hx rfl (2 : Int32) (hb hby at_56) (by decide) ?_
    refine XS.icmpNo X5.here hx rfl (hb hby at_57) rfl (XT.ii_le_f (by decide)) ?_
    refine XS.aload X5.here hx rfl (hb hby at_60) rfl rfl ?_
    refine XT.iconstV X5.here hx rfl (2 : Int32) (hb hby at_62) (by decide) ?_
    refine XS.iload X5.here hx rfl (hb hby at_63) rfl ?_
    refine st7 _ ?_
    refine XS.iload X7.here hx rfl (hb hby at_66) rfl ?_
    refine XT.iconstV X7.here hx rfl (3 : Int32) (hb hby at_68) (by decide) ?_
    refine XS.icmpYes X7.here hx rfl (pc0 := 69) (pc' := 78) rfl (hb hby at_69) rfl (XT.ii_le_t (by decide)) (by decide) (by decide) ?_
    refine st8 _ ?_
    refine XS.dup X8.here hx rfl (hb hby at_81) rfl rfl ?_
    refine XS.aload X8.here hx rfl (hb hby at_82) rfl rfl ?_
    refine st14 _ ?_
    refine XS.astore X14.here hx rfl (hb hby at_87) rfl rfl (l' := #[iv p0, iv p1, iv p2, iv p3, iv p4, iv 3, iv (own_c p1), iv (own_c p2), iv (own_c p3), iv (own_c p4), rv b1, rv b8, .unset]) rfl ?_
    refine XS.iload X14.here hx rfl (hb hby at_89) rfl ?_
    refine XT.iconstV X14.here hx rfl (1 : Int32) (hb hby at_91) (by decide) ?_
    refine XS.icmpNo X14.here hx rfl (hb hby at_92) rfl (XT.ii_lt_f (by decide)) ?_
    refine XS.iload X14.here hx rfl (hb hby at_95) rfl ?_
    refine st15 _ ?_
    exact k)
  by_cases hc100_17 : (own_al (own_c p1)) = (0 : Int32)
  · have f18 := (A8.keep K14)
    have f19 := (own_stak f10 K14 (allS (own_exns A8) all0))
    have f20 := (own_stak (((((hF.ext E1).wr W3).wr W5).wr W7).ext E8) K14 (allS (own_exns A8) all0))
    have f21 := (own_stak f11 K14 (allS (own_exns A8) all0))
    have f22 := (own_stak f12 K14 (allS (own_exns A8) all0))
    have f23 := (own_stak f13 K14 (allS (own_exns A8) all0))
    obtain ⟨_, T24, Lc24, X24, hQ24, st24⟩ := own_callS (W := 0) (y := mN6) X15 hx hZ hown (hw _ (own_w 23 rfl)) (hw _ (own_w 24 rfl)) (hw _ (own_w 25 rfl)) (hw _ (own_w 26 rfl)) (by decide) (rmNs_3 l Z av0 hw [] b8 wC fm (own_c p1) (own_c p2) (own_c p3) T14.heap n0 Zk14 f18 St14 f19 hw0 hfm f20 f21 f22 f23 (own_cr p1) (own_cr p2) (own_cr p3)) (by decide) (by decide) (g := (mkF m 154 #[iv p0, iv p1, iv p2, iv p3, iv p4, iv 3, iv (own_c p1), iv (own_c p2), iv (own_c p3), iv (own_c p4), rv b1, rv b8, iv 0] [(.ref b8)])) rfl (by rw [hml]; rfl) (argsL := [(.ref b8)]) (rest := []) (lenOf pd__Ljava_lang_String_Z rfl) rfl (hb hby at_154) rfl e15 (by decide : 4 + 0 ≤ _) (by decide : 16 + 0 ≤ _)
    obtain ⟨rfl, N24q, hh24⟩ := hQ24
    have N24 := Fr.app N15 N24q
    have e24 : T24.heap = T14.heap := hh24
    have S25 : ∀ t, oS p e below T24 (mkF m 167 #[iv p0, iv p1, iv p2, iv p3, iv p4, iv 3, iv (own_c p1), iv (own_c p2), iv (own_c p3), iv (own_c p4), rv b1, rv b8, iv 0] [(.int 1)]) t → oS p e below s₁ (mkF m 0 #[iv p0, iv p1, iv p2, iv p3, iv p4, .unset, .unset, .unset, .unset, .unset, .unset, .unset, .unset] []) t := fun t k => S16 t (by
      show oS p e below T15 (mkF m 100 #[iv p0, iv p1, iv p2, iv p3, iv p4, iv 3, iv (own_c p1), iv (own_c p2), iv (own_c p3), iv (own_c p4), rv b1, rv b8, .unset] [(.int (own_al (own_c p1)))]) _
      refine XS.ifYes X15.here hx rfl (pc0 := 100) (pc' := 149) rfl (hb hby at_100) rfl (XT.i0_eq_t hc100_17) (by decide) (by decide) ?_
      show oS p e below T15 (mkF m 149 #[iv p0, iv p1, iv p2, iv p3, iv p4, iv 3, iv (own_c p1), iv (own_c p2), iv (own_c p3), iv (own_c p4), rv b1, rv b8, .unset] []) _
      refine XT.iconstV X15.here hx rfl (0 : Int32) (hb hby at_149) (by decide) ?_
      refine XS.istore X15.here hx rfl (hb hby at_150) rfl (l' := #[iv p0, iv p1, iv p2, iv p3, iv p4, iv 3, iv (own_c p1), iv (own_c p2), iv (own_c p3), iv (own_c p4), rv b1, rv b8, iv 0]) rfl ?_
      refine XS.aload X15.here hx rfl (hb hby at_152) rfl rfl ?_
      refine st24 _ ?_
      refine XS.iload X24.here hx rfl (hb hby at_157) rfl ?_
      refine XS.icmpNo X24.here hx rfl (hb hby at_159) rfl (XT.ii_ne_f (by simp [own_step, own_end, hc100_17])) ?_
      refine XT.iconstV X24.here hx rfl (1 : Int32) (hb hby at_162) (by decide) ?_
      refine XS.goto X24.here hx rfl (pc0 := 163) (pc' := 167) rfl (hb hby at_163) (by decide) (by decide) ?_
      exact k)
    obtain ⟨fs, hr, hrun, hended, hW, hsame⟩ := X24.leave (v := some (.int 1)) (fun h => by rw [Bd.returns] at h; cases h)
    refine ⟨_, _, pre0 _ (S25 _ ?_), hrun, hended, _, _, rfl, ?_, ReturnedEndW.of_narrow ⟨_, rfl⟩ hW (hsame.mono (by decide) (by decide))⟩
    · exact retN X24 hx (t := .boolean) Bd.returns (by simp) (hb hby at_167) hr
    · show Qrm0 Z p0 p1 p2 p3 p4 wC fm h0 n0 _ T24.heap _
      rw [e24]
      exact ⟨rfl, N24⟩
  · obtain ⟨_, T26, Lc26, X26, hQ26, st26⟩ := own_callS (W := 0) (y := mN1) X15 hx hZ hown (hw _ (own_w 48 rfl)) (hw _ (own_w 49 rfl)) (hw _ (own_w 50 rfl)) (hw _ (own_w 51 rfl)) (by decide) (rmA l Z av0 hw [] (own_c p2) T14.heap n0 Zk14 ) (by decide) (by decide) (g := (mkF m 111 #[iv p0, iv p1, iv p2, iv p3, iv p4, iv 3, iv (own_c p1), iv (own_c p2), iv (own_c p3), iv (own_c p4), rv b1, rv b8, .unset] [(.int (own_c p2))])) rfl (by rw [hml]; rfl) (argsL := [(.int (own_c p2))]) (rest := []) (lenOf pd__C_Z rfl) rfl (hb hby at_111) rfl e15 (by decide : 4 + 0 ≤ _) (by decide : 16 + 0 ≤ _)
    obtain ⟨rfl, N26q, hh26⟩ := hQ26
    have N26 := Fr.app N15 N26q
    have e26 : T26.heap = T14.heap := hh26
    have S27 : ∀ t, oS p e below T26 (mkF m 114 #[iv p0, iv p1, iv p2, iv p3, iv p4, iv 3, iv (own_c p1), iv (own_c p2), iv (own_c p3), iv (own_c p4), rv b1, rv b8, .unset] [(.int (own_al (own_c p2)))]) t → oS p e below s₁ (mkF m 0 #[iv p0, iv p1, iv p2, iv p3, iv p4, .unset, .unset, .unset, .unset, .unset, .unset, .unset, .unset] []) t := fun t k => S16 t (by
      show oS p e below T15 (mkF m 100 #[iv p0, iv p1, iv p2, iv p3, iv p4, iv 3, iv (own_c p1), iv (own_c p2), iv (own_c p3), iv (own_c p4), rv b1, rv b8, .unset] [(.int (own_al (own_c p1)))]) _
      refine XS.ifNo X15.here hx rfl (hb hby at_100) rfl (XT.i0_eq_f hc100_17) ?_
      show oS p e below T15 (mkF m 103 #[iv p0, iv p1, iv p2, iv p3, iv p4, iv 3, iv (own_c p1), iv (own_c p2), iv (own_c p3), iv (own_c p4), rv b1, rv b8, .unset] []) _
      refine XS.iload X15.here hx rfl (hb hby at_103) rfl ?_
      refine XT.iconstV X15.here hx rfl (2 : Int32) (hb hby at_105) (by decide) ?_
      refine XS.icmpNo X15.here hx rfl (hb hby at_106) rfl (XT.ii_lt_f (by decide)) ?_
      refine XS.iload X15.here hx rfl (hb hby at_109) rfl ?_
      refine st26 _ ?_
      exact k)
    by_cases hc114_28 : (own_al (own_c p2)) = (0 : Int32)
    · have f29 := (A8.keep K14)
      have f30 := (own_stak f10 K14 (allS (own_exns A8) all0))
      have f31 := (own_stak (((((hF.ext E1).wr W3).wr W5).wr W7).ext E8) K14 (allS (own_exns A8) all0))
      have f32 := (own_stak f11 K14 (allS (own_exns A8) all0))
      have f33 := (own_stak f12 K14 (allS (own_exns A8) all0))
      have f34 := (own_stak f13 K14 (allS (own_exns A8) all0))
      obtain ⟨_, T35, Lc35, X35, hQ35, st35⟩ := own_callS (W := 0) (y := mN6) X26 hx hZ hown (hw _ (own_w 23 rfl)) (hw _ (own_w 24 rfl)) (hw _ (own_w 25 rfl)) (hw _ (own_w 26 rfl)) (by decide) (rmNs_3 l Z av0 hw [] b8 wC fm (own_c p1) (own_c p2) (own_c p3) T14.heap n0 Zk14 f29 St14 f30 hw0 hfm f31 f32 f33 f34 (own_cr p1) (own_cr p2) (own_cr p3)) (by decide) (by decide) (g := (mkF m 154 #[iv p0, iv p1, iv p2, iv p3, iv p4, iv 3, iv (own_c p1), iv (own_c p2), iv (own_c p3), iv (own_c p4), rv b1, rv b8, iv 0] [(.ref b8)])) rfl (by rw [hml]; rfl) (argsL := [(.ref b8)]) (rest := []) (lenOf pd__Ljava_lang_String_Z rfl) rfl (hb hby at_154) rfl e26 (by decide : 4 + 0 ≤ _) (by decide : 16 + 0 ≤ _)
      obtain ⟨rfl, N35q, hh35⟩ := hQ35
      have N35 := Fr.app N26 N35q
      have e35 : T35.heap = T14.heap := hh35
      have S36 : ∀ t, oS p e below T35 (mkF m 167 #[iv p0, iv p1, iv p2, iv p3, iv p4, iv 3, iv (own_c p1), iv (own_c p2), iv (own_c p3), iv (own_c p4), rv b1, rv b8, iv 0] [(.int 1)]) t → oS p e below s₁ (mkF m 0 #[iv p0, iv p1, iv p2, iv p3, iv p4, .unset, .unset, .unset, .unset, .unset, .unset, .unset, .unset] []) t := fun t k => S27 t (by
        show oS p e below T26 (mkF m 114 #[iv p0, iv p1, iv p2, iv p3, iv p4, iv 3, iv (own_c p1), iv (own_c p2), iv (own_c p3), iv (own_c p4), rv b1, rv b8, .unset] [(.int (own_al (own_c p2)))]) _
        refine XS.ifYes X26.here hx rfl (pc0 := 114) (pc' := 149) rfl (hb hby at_114) rfl (XT.i0_eq_t hc114_28) (by decide) (by decide) ?_
        refine XT.iconstV X26.here hx rfl (0 : Int32) (hb hby at_149) (by decide) ?_
        refine XS.istore X26.here hx rfl (hb hby at_150) rfl (l' := #[iv p0, iv p1, iv p2, iv p3, iv p4, iv 3, iv (own_c p1), iv (own_c p2), iv (own_c p3), iv (own_c p4), rv b1, rv b8, iv 0]) rfl ?_
        refine XS.aload X26.here hx rfl (hb hby at_152) rfl rfl ?_
        refine st35 _ ?_
        refine XS.iload X35.here hx rfl (hb hby at_157) rfl ?_
        refine XS.icmpNo X35.here hx rfl (hb hby at_159) rfl (XT.ii_ne_f (by simp [own_step, own_end, hc100_17, hc114_28])) ?_
        refine XT.iconstV X35.here hx rfl (1 : Int32) (hb hby at_162) (by decide) ?_
        refine XS.goto X35.here hx rfl (pc0 := 163) (pc' := 167) rfl (hb hby at_163) (by decide) (by decide) ?_
        exact k)
      obtain ⟨fs, hr, hrun, hended, hW, hsame⟩ := X35.leave (v := some (.int 1)) (fun h => by rw [Bd.returns] at h; cases h)
      refine ⟨_, _, pre0 _ (S36 _ ?_), hrun, hended, _, _, rfl, ?_, ReturnedEndW.of_narrow ⟨_, rfl⟩ hW (hsame.mono (by decide) (by decide))⟩
      · exact retN X35 hx (t := .boolean) Bd.returns (by simp) (hb hby at_167) hr
      · show Qrm0 Z p0 p1 p2 p3 p4 wC fm h0 n0 _ T35.heap _
        rw [e35]
        exact ⟨rfl, N35⟩
    · obtain ⟨_, T37, Lc37, X37, hQ37, st37⟩ := own_callS (W := 0) (y := mN1) X26 hx hZ hown (hw _ (own_w 48 rfl)) (hw _ (own_w 49 rfl)) (hw _ (own_w 50 rfl)) (hw _ (own_w 51 rfl)) (by decide) (rmA l Z av0 hw [] (own_c p3) T14.heap n0 Zk14 ) (by decide) (by decide) (g := (mkF m 125 #[iv p0, iv p1, iv p2, iv p3, iv p4, iv 3, iv (own_c p1), iv (own_c p2), iv (own_c p3), iv (own_c p4), rv b1, rv b8, .unset] [(.int (own_c p3))])) rfl (by rw [hml]; rfl) (argsL := [(.int (own_c p3))]) (rest := []) (lenOf pd__C_Z rfl) rfl (hb hby at_125) rfl e26 (by decide : 4 + 0 ≤ _) (by decide : 16 + 0 ≤ _)
      obtain ⟨rfl, N37q, hh37⟩ := hQ37
      have N37 := Fr.app N26 N37q
      have e37 : T37.heap = T14.heap := hh37
      have S38 : ∀ t, oS p e below T37 (mkF m 128 #[iv p0, iv p1, iv p2, iv p3, iv p4, iv 3, iv (own_c p1), iv (own_c p2), iv (own_c p3), iv (own_c p4), rv b1, rv b8, .unset] [(.int (own_al (own_c p3)))]) t → oS p e below s₁ (mkF m 0 #[iv p0, iv p1, iv p2, iv p3, iv p4, .unset, .unset, .unset, .unset, .unset, .unset, .unset, .unset] []) t := fun t k => S27 t (by
        show oS p e below T26 (mkF m 114 #[iv p0, iv p1, iv p2, iv p3, iv p4, iv 3, iv (own_c p1), iv (own_c p2), iv (own_c p3), iv (own_c p4), rv b1, rv b8, .unset] [(.int (own_al (own_c p2)))]) _
        refine XS.ifNo X26.here hx rfl (hb hby at_114) rfl (XT.i0_eq_f hc114_28) ?_
        refine XS.iload X26.here hx rfl (hb hby at_117) rfl ?_
        refine XT.iconstV X26.here hx rfl (3 : Int32) (hb hby at_119) (by decide) ?_
        refine XS.icmpNo X26.here hx rfl (hb hby at_120) rfl (XT.ii_lt_f (by decide)) ?_
        refine XS.iload X26.here hx rfl (hb hby at_123) rfl ?_
        refine st37 _ ?_
        exact k)
      by_cases hc128_39 : (own_al (own_c p3)) = (0 : Int32)
      · have f40 := (A8.keep K14)
        have f41 := (own_stak f10 K14 (allS (own_exns A8) all0))
        have f42 := (own_stak (((((hF.ext E1).wr W3).wr W5).wr W7).ext E8) K14 (allS (own_exns A8) all0))
        have f43 := (own_stak f11 K14 (allS (own_exns A8) all0))
        have f44 := (own_stak f12 K14 (allS (own_exns A8) all0))
        have f45 := (own_stak f13 K14 (allS (own_exns A8) all0))
        obtain ⟨_, T46, Lc46, X46, hQ46, st46⟩ := own_callS (W := 0) (y := mN6) X37 hx hZ hown (hw _ (own_w 23 rfl)) (hw _ (own_w 24 rfl)) (hw _ (own_w 25 rfl)) (hw _ (own_w 26 rfl)) (by decide) (rmNs_3 l Z av0 hw [] b8 wC fm (own_c p1) (own_c p2) (own_c p3) T14.heap n0 Zk14 f40 St14 f41 hw0 hfm f42 f43 f44 f45 (own_cr p1) (own_cr p2) (own_cr p3)) (by decide) (by decide) (g := (mkF m 154 #[iv p0, iv p1, iv p2, iv p3, iv p4, iv 3, iv (own_c p1), iv (own_c p2), iv (own_c p3), iv (own_c p4), rv b1, rv b8, iv 0] [(.ref b8)])) rfl (by rw [hml]; rfl) (argsL := [(.ref b8)]) (rest := []) (lenOf pd__Ljava_lang_String_Z rfl) rfl (hb hby at_154) rfl e37 (by decide : 4 + 0 ≤ _) (by decide : 16 + 0 ≤ _)
        obtain ⟨rfl, N46q, hh46⟩ := hQ46
        have N46 := Fr.app N37 N46q
        have e46 : T46.heap = T14.heap := hh46
        have S47 : ∀ t, oS p e below T46 (mkF m 167 #[iv p0, iv p1, iv p2, iv p3, iv p4, iv 3, iv (own_c p1), iv (own_c p2), iv (own_c p3), iv (own_c p4), rv b1, rv b8, iv 0] [(.int 1)]) t → oS p e below s₁ (mkF m 0 #[iv p0, iv p1, iv p2, iv p3, iv p4, .unset, .unset, .unset, .unset, .unset, .unset, .unset, .unset] []) t := fun t k => S38 t (by
          show oS p e below T37 (mkF m 128 #[iv p0, iv p1, iv p2, iv p3, iv p4, iv 3, iv (own_c p1), iv (own_c p2), iv (own_c p3), iv (own_c p4), rv b1, rv b8, .unset] [(.int (own_al (own_c p3)))]) _
          refine XS.ifYes X37.here hx rfl (pc0 := 128) (pc' := 149) rfl (hb hby at_128) rfl (XT.i0_eq_t hc128_39) (by decide) (by decide) ?_
          refine XT.iconstV X37.here hx rfl (0 : Int32) (hb hby at_149) (by decide) ?_
          refine XS.istore X37.here hx rfl (hb hby at_150) rfl (l' := #[iv p0, iv p1, iv p2, iv p3, iv p4, iv 3, iv (own_c p1), iv (own_c p2), iv (own_c p3), iv (own_c p4), rv b1, rv b8, iv 0]) rfl ?_
          refine XS.aload X37.here hx rfl (hb hby at_152) rfl rfl ?_
          refine st46 _ ?_
          refine XS.iload X46.here hx rfl (hb hby at_157) rfl ?_
          refine XS.icmpNo X46.here hx rfl (hb hby at_159) rfl (XT.ii_ne_f (by simp [own_step, own_end, hc100_17, hc114_28, hc128_39])) ?_
          refine XT.iconstV X46.here hx rfl (1 : Int32) (hb hby at_162) (by decide) ?_
          refine XS.goto X46.here hx rfl (pc0 := 163) (pc' := 167) rfl (hb hby at_163) (by decide) (by decide) ?_
          show oS p e below T46 (mkF m 167 #[iv p0, iv p1, iv p2, iv p3, iv p4, iv 3, iv (own_c p1), iv (own_c p2), iv (own_c p3), iv (own_c p4), rv b1, rv b8, iv 0] [(.int 1)]) _
          exact k)
        obtain ⟨fs, hr, hrun, hended, hW, hsame⟩ := X46.leave (v := some (.int 1)) (fun h => by rw [Bd.returns] at h; cases h)
        refine ⟨_, _, pre0 _ (S47 _ ?_), hrun, hended, _, _, rfl, ?_, ReturnedEndW.of_narrow ⟨_, rfl⟩ hW (hsame.mono (by decide) (by decide))⟩
        · exact retN X46 hx (t := .boolean) Bd.returns (by simp) (hb hby at_167) hr
        · show Qrm0 Z p0 p1 p2 p3 p4 wC fm h0 n0 _ T46.heap _
          rw [e46]
          exact ⟨rfl, N46⟩
      · have f48 := (A8.keep K14)
        have f49 := (own_stak f10 K14 (allS (own_exns A8) all0))
        have f50 := (own_stak (((((hF.ext E1).wr W3).wr W5).wr W7).ext E8) K14 (allS (own_exns A8) all0))
        have f51 := (own_stak f11 K14 (allS (own_exns A8) all0))
        have f52 := (own_stak f12 K14 (allS (own_exns A8) all0))
        have f53 := (own_stak f13 K14 (allS (own_exns A8) all0))
        obtain ⟨_, T54, Lc54, X54, hQ54, st54⟩ := own_callS (W := 0) (y := mN6) X37 hx hZ hown (hw _ (own_w 23 rfl)) (hw _ (own_w 24 rfl)) (hw _ (own_w 25 rfl)) (hw _ (own_w 26 rfl)) (by decide) (rmNs_3 l Z av0 hw [] b8 wC fm (own_c p1) (own_c p2) (own_c p3) T14.heap n0 Zk14 f48 St14 f49 hw0 hfm f50 f51 f52 f53 (own_cr p1) (own_cr p2) (own_cr p3)) (by decide) (by decide) (g := (mkF m 154 #[iv p0, iv p1, iv p2, iv p3, iv p4, iv 3, iv (own_c p1), iv (own_c p2), iv (own_c p3), iv (own_c p4), rv b1, rv b8, iv 1] [(.ref b8)])) rfl (by rw [hml]; rfl) (argsL := [(.ref b8)]) (rest := []) (lenOf pd__Ljava_lang_String_Z rfl) rfl (hb hby at_154) rfl e37 (by decide : 4 + 0 ≤ _) (by decide : 16 + 0 ≤ _)
        obtain ⟨rfl, N54q, hh54⟩ := hQ54
        have N54 := Fr.app N37 N54q
        have e54 : T54.heap = T14.heap := hh54
        have S55 : ∀ t, oS p e below T54 (mkF m 167 #[iv p0, iv p1, iv p2, iv p3, iv p4, iv 3, iv (own_c p1), iv (own_c p2), iv (own_c p3), iv (own_c p4), rv b1, rv b8, iv 1] [(.int 1)]) t → oS p e below s₁ (mkF m 0 #[iv p0, iv p1, iv p2, iv p3, iv p4, .unset, .unset, .unset, .unset, .unset, .unset, .unset, .unset] []) t := fun t k => S38 t (by
          show oS p e below T37 (mkF m 128 #[iv p0, iv p1, iv p2, iv p3, iv p4, iv 3, iv (own_c p1), iv (own_c p2), iv (own_c p3), iv (own_c p4), rv b1, rv b8, .unset] [(.int (own_al (own_c p3)))]) _
          refine XS.ifNo X37.here hx rfl (hb hby at_128) rfl (XT.i0_eq_f hc128_39) ?_
          refine XS.iload X37.here hx rfl (hb hby at_131) rfl ?_
          refine XT.iconstV X37.here hx rfl (4 : Int32) (hb hby at_133) (by decide) ?_
          refine XS.icmpYes X37.here hx rfl (pc0 := 134) (pc' := 145) rfl (hb hby at_134) rfl (XT.ii_lt_t (by decide)) (by decide) (by decide) ?_
          refine XT.iconstV X37.here hx rfl (1 : Int32) (hb hby at_145) (by decide) ?_
          refine XS.goto X37.here hx rfl (pc0 := 146) (pc' := 150) rfl (hb hby at_146) (by decide) (by decide) ?_
          refine XS.istore X37.here hx rfl (hb hby at_150) rfl (l' := #[iv p0, iv p1, iv p2, iv p3, iv p4, iv 3, iv (own_c p1), iv (own_c p2), iv (own_c p3), iv (own_c p4), rv b1, rv b8, iv 1]) rfl ?_
          refine XS.aload X37.here hx rfl (hb hby at_152) rfl rfl ?_
          refine st54 _ ?_
          show oS p e below T54 (mkF m 157 #[iv p0, iv p1, iv p2, iv p3, iv p4, iv 3, iv (own_c p1), iv (own_c p2), iv (own_c p3), iv (own_c p4), rv b1, rv b8, iv 1] [(.int (own_ns [(own_c p1), (own_c p2), (own_c p3)]))]) _
          refine XS.iload X54.here hx rfl (hb hby at_157) rfl ?_
          refine XS.icmpNo X54.here hx rfl (hb hby at_159) rfl (XT.ii_ne_f (by simp [own_step, own_end, hc100_17, hc114_28, hc128_39])) ?_
          refine XT.iconstV X54.here hx rfl (1 : Int32) (hb hby at_162) (by decide) ?_
          refine XS.goto X54.here hx rfl (pc0 := 163) (pc' := 167) rfl (hb hby at_163) (by decide) (by decide) ?_
          exact k)
        obtain ⟨fs, hr, hrun, hended, hW, hsame⟩ := X54.leave (v := some (.int 1)) (fun h => by rw [Bd.returns] at h; cases h)
        refine ⟨_, _, pre0 _ (S55 _ ?_), hrun, hended, _, _, rfl, ?_, ReturnedEndW.of_narrow ⟨_, rfl⟩ hW (hsame.mono (by decide) (by decide))⟩
        · exact retN X54 hx (t := .boolean) Bd.returns (by simp) (hb hby at_167) hr
        · show Qrm0 Z p0 p1 p2 p3 p4 wC fm h0 n0 _ T54.heap _
          rw [e54]
          exact ⟨rfl, N54⟩
def own_St4 (Z : State) (h : Heap) (a : Addr) (c0 : Int32) (c1 : Int32) (c2 : Int32) (c3 : Int32) : Prop := (∃ (b : Addr) (k : ClassId), Fld Z h a "java/lang/String" "value" "[B" (.ref b) ∧ Fld Z h a "java/lang/String" "coder" "B" (.int (0 : Int32)) ∧ Arv Z h b k .byte (4 : Int32) [(.int (own_b c0)), (.int (own_b c1)), (.int (own_b c2)), (.int (own_b c3))] (.int (0 : Int32)) ∧ ¬ (255 : Int32) < c0 ∧ ¬ (255 : Int32) < c1 ∧ ¬ (255 : Int32) < c2 ∧ ¬ (255 : Int32) < c3) ∨ (∃ (b : Addr) (k : ClassId), Fld Z h a "java/lang/String" "value" "[B" (.ref b) ∧ Fld Z h a "java/lang/String" "coder" "B" (.int (1 : Int32)) ∧ Arv Z h b k .byte (8 : Int32) [(.int (own_lo c0)), (.int (own_hi c0)), (.int (own_lo c1)), (.int (own_hi c1)), (.int (own_lo c2)), (.int (own_hi c2)), (.int (own_lo c3)), (.int (own_hi c3))] (.int (0 : Int32)))
theorem own_St4_ext {Z : State} {h h' : Heap} {a o : Addr} {c0 : Int32} {c1 : Int32} {c2 : Int32} {c3 : Int32} (S : own_St4 Z h a c0 c1 c2 c3) (E : Ext h h') : own_St4 Z h' a c0 c1 c2 c3 := by
  rcases S with ⟨b, k, f, g, A, r0, r1, r2, r3⟩ | ⟨b, k, f, g, A⟩
  · exact Or.inl ⟨b, k, f.ext E, g.ext E, A.ext E, r0, r1, r2, r3⟩
  · exact Or.inr ⟨b, k, f.ext E, g.ext E, A.ext E⟩
theorem own_St4_wr {Z : State} {h h' : Heap} {a o : Addr} {c0 : Int32} {c1 : Int32} {c2 : Int32} {c3 : Int32} (S : own_St4 Z h a c0 c1 c2 c3) {sl : Nat} {v : Value} (W : Wr h h' o sl v) (hn : a ≠ o) (hb : ∀ {b k z vs d}, Arv Z h b k .byte z vs d → b ≠ o) : own_St4 Z h' a c0 c1 c2 c3 := by
  rcases S with ⟨b, k, f, g, A, r0, r1, r2, r3⟩ | ⟨b, k, f, g, A⟩
  · exact Or.inl ⟨b, k, f.other W (Or.inl hn), g.other W (Or.inl hn), A.other W (hb A), r0, r1, r2, r3⟩
  · exact Or.inr ⟨b, k, f.other W (Or.inl hn), g.other W (Or.inl hn), A.other W (hb A)⟩
theorem own_St4_k0 {Z : State} {h h' : Heap} {a o : Addr} {c0 : Int32} {c1 : Int32} {c2 : Int32} {c3 : Int32} (S : own_St4 Z h a c0 c1 c2 c3) (K : Keep h h' []) : own_St4 Z h' a c0 c1 c2 c3 := by
  rcases S with ⟨b, k, f, g, A, r0, r1, r2, r3⟩ | ⟨b, k, f, g, A⟩
  · exact Or.inl ⟨b, k, f.keep K nin0, g.keep K nin0, A.keep K nin0, r0, r1, r2, r3⟩
  · exact Or.inr ⟨b, k, f.keep K nin0, g.keep K nin0, A.keep K nin0⟩
theorem own_St4_k1 {Z : State} {h h' : Heap} {a o : Addr} {c0 : Int32} {c1 : Int32} {c2 : Int32} {c3 : Int32} (S : own_St4 Z h a c0 c1 c2 c3) (K : Keep h h' [o]) (hn : a ≠ o) (hb : ∀ {b k z vs d}, Arv Z h b k .byte z vs d → b ≠ o) : own_St4 Z h' a c0 c1 c2 c3 := by
  rcases S with ⟨b, k, f, g, A, r0, r1, r2, r3⟩ | ⟨b, k, f, g, A⟩
  · exact Or.inl ⟨b, k, f.keep K (ninS hn nin0), g.keep K (ninS hn nin0), A.keep K (ninS (hb A) nin0), r0, r1, r2, r3⟩
  · exact Or.inr ⟨b, k, f.keep K (ninS hn nin0), g.keep K (ninS hn nin0), A.keep K (ninS (hb A) nin0)⟩
def QrmLen_4_0 (Z : State) (a0 : Addr) (ab : Addr) (kb : ClassId) (wC : Int32) (c0 : Int32) (c1 : Int32) (c2 : Int32) (c3 : Int32) (h0 : Heap) (n0 : Nat) (v : Option Value) (h : Heap) (L : List Loc) : Prop := v = some (.int (4 : Int32)) ∧ Fr n0 L ∧ h = h0
set_option maxRecDepth 65536 in
set_option maxHeartbeats 40000000 in
theorem rmLen_4_0 (l : Launch) (Z : State) (av0 : Array Value) (hw : ∀ d ∈ tables_1, d.before av0 Z = true) (ws : List Jvm.Cond) (a0 : Addr) (ab : Addr) (kb : ClassId) (wC : Int32) (c0 : Int32) (c1 : Int32) (c2 : Int32) (c3 : Int32) (h0 : Heap) (n0 : Nat) (Z0 : n0 ≤ h0.size) (hE : Exa Z h0 a0 "java/lang/String") (hV : Fld Z h0 a0 "java/lang/String" "value" "[B" (.ref ab)) (hC : Fld Z h0 a0 "java/lang/String" "coder" "B" (.int (0 : Int32))) (hB : Arv Z h0 ab kb .byte (4 : Int32) [(.int (own_b c0)), (.int (own_b c1)), (.int (own_b c2)), (.int (own_b c3))] (.int (0 : Int32))) (hS : Sta Z h0 "java/lang/String" "COMPACT_STRINGS" "Z" (.int wC)) (hw0 : ¬ wC = (0 : Int32)) :
    own_Met l mN5 jdk_42_method_54_code 1 (some .int) ws ({ frames := 1, cells := 0, slots := 0, locals := 13 } : Room) #[(.ref a0)] Z h0 (QrmLen_4_0 Z a0 ab kb wC c0 c1 c2 c3 h0 n0) := by
  refine MetFree.of_bodySF (plainFor_of_name pn_String) hisR ?_
  intro p e s m args below meth c s₁ Bd hml0 hP hK
  obtain ⟨rfl, hZ, hh⟩ := hP
  have hml : c.maxLocals = 1 := hml0
  obtain ⟨hx, hby, hown, hnm, X0, e0⟩ := own_start Bd hml0 hh
  have N0 := Fr.nil n0
  have pre0 : ∀ t, oS p e below s₁ (mkF m 0 #[rv a0] []) t → Steps p.tables e below (s₁.setTop (entryFrame m #[(.ref a0)] 1)) t := fun t k => castTop (by first | (simp [entryFrame, mkF, argsToLocals, Value.category]; done) | rfl) k
  obtain ⟨T1, X1, e1, st1⟩ := getF X0 hx hZ hown (host := "") (Or.inl (hw _ (own_w 21 rfl))) Via.refl e0 hV (g := (mkF m 1 #[rv a0] [(.ref a0)])) rfl rfl (hb hby d5_1)
  obtain ⟨cl2, Ar2, qk2, Sz2, Ng2, Hs2, Gs2⟩ := id hB
  obtain ⟨_, T3, Lc3, X3, hQ3, st3⟩ := own_virtual (W := 1) (y := mN4) (z := mN4) X1 hx hZ hown (hw _ (own_w 32 rfl)) (hw _ (own_w 33 rfl)) (notFace_of_selects (args := #[]) (mvT hZ (hw _ (own_w 35 rfl)))) (hw _ (own_w 35 rfl)) (hw _ (own_w 34 rfl)) (hw _ (own_w 36 rfl)) (hw _ (own_w 4 rfl)) (by decide) (rmCoder_0 l Z av0 hw [] a0 wC h0 n0 Z0 hS hw0 hC) (by decide) (by decide) hE (g := (mkF m 6 #[rv a0] [(.ref a0), (.int 4)])) rfl (by rw [hml]; rfl) (argsL := []) (rest := [(.int 4)]) (lenOf pd__B rfl) rfl (hb hby d5_6) rfl e1 (by decide : 0 + 0 ≤ _) (by decide : 0 + 0 ≤ _)
  obtain ⟨rfl, N3q, hh3⟩ := hQ3
  have N3 := Fr.app N0 N3q
  have e3 : T3.heap = h0 := hh3
  have S4 : ∀ t, oS p e below T3 (mkF m 10 #[rv a0] [(.int 4)]) t → oS p e below s₁ (mkF m 0 #[rv a0] []) t := fun t k => id (by
    show oS p e below s₁ (mkF m 0 #[rv a0] []) _
    refine XS.aloadN X0.here hx rfl (hb hby d5_0) rfl rfl ?_
    refine st1 _ ?_
    refine X1.arraylength hx (by rw [e1]; exact Ar2.1) (State.isArrayOf_alike hZ.alike Ar2.2.1) (g := (mkF m 4 #[rv a0] [(.ref ab)])) rfl rfl (hb hby d5_4) _ ?_
    rw [len_of Sz2 Ng2]
    refine XS.aloadN X1.here hx rfl (hb hby d5_5) rfl rfl ?_
    refine st3 _ ?_
    refine XT.ishr X3.here hx rfl (hb hby d5_9) rfl ?_
    exact k)
  obtain ⟨fs, hr, hrun, hended, hW, hsame⟩ := X3.leave (v := some (.int 4)) (fun h => by rw [Bd.returns] at h; cases h)
  refine ⟨_, _, pre0 _ (S4 _ ?_), hrun, hended, _, _, rfl, ?_, ⟨_, rfl⟩, hW, hsame.mono (by decide) (by decide)⟩
  · exact retI X3 hx Bd.returns (hb hby d5_10) hr
  · show QrmLen_4_0 Z a0 ab kb wC c0 c1 c2 c3 h0 n0 _ T3.heap _
    rw [e3]
    exact ⟨congrArg (fun z => some (Value.int z)) (by decide), N3, rfl⟩
def QrmLen_4_1 (Z : State) (a0 : Addr) (ab : Addr) (kb : ClassId) (wC : Int32) (c0 : Int32) (c1 : Int32) (c2 : Int32) (c3 : Int32) (h0 : Heap) (n0 : Nat) (v : Option Value) (h : Heap) (L : List Loc) : Prop := v = some (.int (4 : Int32)) ∧ Fr n0 L ∧ h = h0
set_option maxRecDepth 65536 in
set_option maxHeartbeats 40000000 in
theorem rmLen_4_1 (l : Launch) (Z : State) (av0 : Array Value) (hw : ∀ d ∈ tables_1, d.before av0 Z = true) (ws : List Jvm.Cond) (a0 : Addr) (ab : Addr) (kb : ClassId) (wC : Int32) (c0 : Int32) (c1 : Int32) (c2 : Int32) (c3 : Int32) (h0 : Heap) (n0 : Nat) (Z0 : n0 ≤ h0.size) (hE : Exa Z h0 a0 "java/lang/String") (hV : Fld Z h0 a0 "java/lang/String" "value" "[B" (.ref ab)) (hC : Fld Z h0 a0 "java/lang/String" "coder" "B" (.int (1 : Int32))) (hB : Arv Z h0 ab kb .byte (8 : Int32) [(.int (own_lo c0)), (.int (own_hi c0)), (.int (own_lo c1)), (.int (own_hi c1)), (.int (own_lo c2)), (.int (own_hi c2)), (.int (own_lo c3)), (.int (own_hi c3))] (.int (0 : Int32))) (hS : Sta Z h0 "java/lang/String" "COMPACT_STRINGS" "Z" (.int wC)) (hw0 : ¬ wC = (0 : Int32)) :
    own_Met l mN5 jdk_42_method_54_code 1 (some .int) ws ({ frames := 1, cells := 0, slots := 0, locals := 13 } : Room) #[(.ref a0)] Z h0 (QrmLen_4_1 Z a0 ab kb wC c0 c1 c2 c3 h0 n0) := by
  refine MetFree.of_bodySF (plainFor_of_name pn_String) hisR ?_
  intro p e s m args below meth c s₁ Bd hml0 hP hK
  obtain ⟨rfl, hZ, hh⟩ := hP
  have hml : c.maxLocals = 1 := hml0
  obtain ⟨hx, hby, hown, hnm, X0, e0⟩ := own_start Bd hml0 hh
  have N0 := Fr.nil n0
  have pre0 : ∀ t, oS p e below s₁ (mkF m 0 #[rv a0] []) t → Steps p.tables e below (s₁.setTop (entryFrame m #[(.ref a0)] 1)) t := fun t k => castTop (by first | (simp [entryFrame, mkF, argsToLocals, Value.category]; done) | rfl) k
  obtain ⟨T1, X1, e1, st1⟩ := getF X0 hx hZ hown (host := "") (Or.inl (hw _ (own_w 21 rfl))) Via.refl e0 hV (g := (mkF m 1 #[rv a0] [(.ref a0)])) rfl rfl (hb hby d5_1)
  obtain ⟨cl2, Ar2, qk2, Sz2, Ng2, Hs2, Gs2⟩ := id hB
  obtain ⟨_, T3, Lc3, X3, hQ3, st3⟩ := own_virtual (W := 1) (y := mN4) (z := mN4) X1 hx hZ hown (hw _ (own_w 32 rfl)) (hw _ (own_w 33 rfl)) (notFace_of_selects (args := #[]) (mvT hZ (hw _ (own_w 35 rfl)))) (hw _ (own_w 35 rfl)) (hw _ (own_w 34 rfl)) (hw _ (own_w 36 rfl)) (hw _ (own_w 4 rfl)) (by decide) (rmCoder_1 l Z av0 hw [] a0 wC h0 n0 Z0 hS hw0 hC) (by decide) (by decide) hE (g := (mkF m 6 #[rv a0] [(.ref a0), (.int 8)])) rfl (by rw [hml]; rfl) (argsL := []) (rest := [(.int 8)]) (lenOf pd__B rfl) rfl (hb hby d5_6) rfl e1 (by decide : 0 + 0 ≤ _) (by decide : 0 + 0 ≤ _)
  obtain ⟨rfl, N3q, hh3⟩ := hQ3
  have N3 := Fr.app N0 N3q
  have e3 : T3.heap = h0 := hh3
  have S4 : ∀ t, oS p e below T3 (mkF m 10 #[rv a0] [(.int 4)]) t → oS p e below s₁ (mkF m 0 #[rv a0] []) t := fun t k => id (by
    show oS p e below s₁ (mkF m 0 #[rv a0] []) _
    refine XS.aloadN X0.here hx rfl (hb hby d5_0) rfl rfl ?_
    refine st1 _ ?_
    refine X1.arraylength hx (by rw [e1]; exact Ar2.1) (State.isArrayOf_alike hZ.alike Ar2.2.1) (g := (mkF m 4 #[rv a0] [(.ref ab)])) rfl rfl (hb hby d5_4) _ ?_
    rw [len_of Sz2 Ng2]
    refine XS.aloadN X1.here hx rfl (hb hby d5_5) rfl rfl ?_
    refine st3 _ ?_
    refine XT.ishr X3.here hx rfl (hb hby d5_9) rfl ?_
    exact k)
  obtain ⟨fs, hr, hrun, hended, hW, hsame⟩ := X3.leave (v := some (.int 4)) (fun h => by rw [Bd.returns] at h; cases h)
  refine ⟨_, _, pre0 _ (S4 _ ?_), hrun, hended, _, _, rfl, ?_, ⟨_, rfl⟩, hW, hsame.mono (by decide) (by decide)⟩
  · exact retI X3 hx Bd.returns (hb hby d5_10) hr
  · show QrmLen_4_1 Z a0 ab kb wC c0 c1 c2 c3 h0 n0 _ T3.heap _
    rw [e3]
    exact ⟨congrArg (fun z => some (Value.int z)) (by decide), N3, rfl⟩
theorem rmLenJ_4 (l : Launch) (Z : State) (av0 : Array Value) (hw : ∀ d ∈ tables_1, d.before av0 Z = true) (ws : List Jvm.Cond) (a0 : Addr) (wC : Int32) (fm : Value) (c0 : Int32) (c1 : Int32) (c2 : Int32) (c3 : Int32) (h0 : Heap) (n0 : Nat) (Z0 : n0 ≤ h0.size) (hE : Exa Z h0 a0 "java/lang/String") (hSt : own_St4 Z h0 a0 c0 c1 c2 c3) (hS : Sta Z h0 "java/lang/String" "COMPACT_STRINGS" "Z" (.int wC)) (hw0 : ¬ wC = (0 : Int32))  :
    own_Met l mN5 jdk_42_method_54_code 1 (some .int) ws ({ frames := 1, cells := 0, slots := 0, locals := 13 } : Room) #[(.ref a0)] Z h0 (fun v h L => v = some (.int (4 : Int32)) ∧ Fr n0 L ∧ h = h0) := by
  rcases hSt with ⟨ab, kb, hV, hC, hB, lt0, lt1, lt2, lt3⟩ | ⟨ab, kb, hV, hC, hB⟩
  · exact rmLen_4_0 l Z av0 hw ws a0 ab kb wC c0 c1 c2 c3 h0 n0 Z0 hE hV hC hB hS hw0
  · exact rmLen_4_1 l Z av0 hw ws a0 ab kb wC c0 c1 c2 c3 h0 n0 Z0 hE hV hC hB hS hw0
theorem rmChJ_4_0 (l : Launch) (Z : State) (av0 : Array Value) (hw : ∀ d ∈ tables_1, d.before av0 Z = true) (ws : List Jvm.Cond) (a0 : Addr) (wC : Int32) (fm : Value) (c0 : Int32) (c1 : Int32) (c2 : Int32) (c3 : Int32) (h0 : Heap) (n0 : Nat) (Z0 : n0 ≤ h0.size) (hE : Exa Z h0 a0 "java/lang/String") (hSt : own_St4 Z h0 a0 c0 c1 c2 c3) (hS : Sta Z h0 "java/lang/String" "COMPACT_STRINGS" "Z" (.int wC)) (hw0 : ¬ wC = (0 : Int32)) (hfm : fm.isRef = true) (hF : Sta Z h0 "jdk/internal/util/Preconditions" "SIOOBE_FORMATTER" "Ljava/util/function/BiFunction;" fm) (sA : Sta Z h0 "java/lang/StringUTF16" "$assertionsDisabled" "Z" (.int (1 : Int32))) (sH : Sta Z h0 "java/lang/StringUTF16" "HI_BYTE_SHIFT" "I" (.int (0 : Int32))) (sL : Sta Z h0 "java/lang/StringUTF16" "LO_BYTE_SHIFT" "I" (.int (8 : Int32))) (hg : 0 ≤ c0.toInt ∧ c0.toInt < 65536) :
    own_Met l mN14 jdk_42_method_56_code 2 (some .char) ws ({ frames := 4, cells := 0, slots := 0, locals := 53 } : Room) #[(.ref a0), (.int (0 : Int32))] Z h0 (fun v h L => v = some (.int c0) ∧ Fr n0 L ∧ h = h0) := by
  rcases hSt with ⟨ab, kb, hV, hC, hB, lt0, lt1, lt2, lt3⟩ | ⟨ab, kb, hV, hC, hB⟩
  · exact rmCh0 l Z av0 hw ws a0 ab kb wC (4 : Int32) [(.int (own_b c0)), (.int (own_b c1)), (.int (own_b c2)), (.int (own_b c3))] (0 : Int32) fm c0 h0 n0 Z0 hE hV hC hB hS hw0 hfm hF (by decide) (by decide) rfl ⟨hg.1, lt0⟩
  · exact rmCh1 l Z av0 hw ws a0 ab kb wC (8 : Int32) [(.int (own_lo c0)), (.int (own_hi c0)), (.int (own_lo c1)), (.int (own_hi c1)), (.int (own_lo c2)), (.int (own_hi c2)), (.int (own_lo c3)), (.int (own_hi c3))] (0 : Int32) fm c0 h0 n0 Z0 hE hV hC hB hS hw0 hfm hF sA sH sL (by decide) (by decide) (by decide) (by decide) rfl rfl hg
theorem rmChJ_4_1 (l : Launch) (Z : State) (av0 : Array Value) (hw : ∀ d ∈ tables_1, d.before av0 Z = true) (ws : List Jvm.Cond) (a0 : Addr) (wC : Int32) (fm : Value) (c0 : Int32) (c1 : Int32) (c2 : Int32) (c3 : Int32) (h0 : Heap) (n0 : Nat) (Z0 : n0 ≤ h0.size) (hE : Exa Z h0 a0 "java/lang/String") (hSt : own_St4 Z h0 a0 c0 c1 c2 c3) (hS : Sta Z h0 "java/lang/String" "COMPACT_STRINGS" "Z" (.int wC)) (hw0 : ¬ wC = (0 : Int32)) (hfm : fm.isRef = true) (hF : Sta Z h0 "jdk/internal/util/Preconditions" "SIOOBE_FORMATTER" "Ljava/util/function/BiFunction;" fm) (sA : Sta Z h0 "java/lang/StringUTF16" "$assertionsDisabled" "Z" (.int (1 : Int32))) (sH : Sta Z h0 "java/lang/StringUTF16" "HI_BYTE_SHIFT" "I" (.int (0 : Int32))) (sL : Sta Z h0 "java/lang/StringUTF16" "LO_BYTE_SHIFT" "I" (.int (8 : Int32))) (hg : 0 ≤ c1.toInt ∧ c1.toInt < 65536) :
    own_Met l mN14 jdk_42_method_56_code 2 (some .char) ws ({ frames := 4, cells := 0, slots := 0, locals := 53 } : Room) #[(.ref a0), (.int (1 : Int32))] Z h0 (fun v h L => v = some (.int c1) ∧ Fr n0 L ∧ h = h0) := by
  rcases hSt with ⟨ab, kb, hV, hC, hB, lt0, lt1, lt2, lt3⟩ | ⟨ab, kb, hV, hC, hB⟩
  · exact rmCh0 l Z av0 hw ws a0 ab kb wC (4 : Int32) [(.int (own_b c0)), (.int (own_b c1)), (.int (own_b c2)), (.int (own_b c3))] (1 : Int32) fm c1 h0 n0 Z0 hE hV hC hB hS hw0 hfm hF (by decide) (by decide) rfl ⟨hg.1, lt1⟩
  · exact rmCh1 l Z av0 hw ws a0 ab kb wC (8 : Int32) [(.int (own_lo c0)), (.int (own_hi c0)), (.int (own_lo c1)), (.int (own_hi c1)), (.int (own_lo c2)), (.int (own_hi c2)), (.int (own_lo c3)), (.int (own_hi c3))] (1 : Int32) fm c1 h0 n0 Z0 hE hV hC hB hS hw0 hfm hF sA sH sL (by decide) (by decide) (by decide) (by decide) rfl rfl hg
theorem rmChJ_4_2 (l : Launch) (Z : State) (av0 : Array Value) (hw : ∀ d ∈ tables_1, d.before av0 Z = true) (ws : List Jvm.Cond) (a0 : Addr) (wC : Int32) (fm : Value) (c0 : Int32) (c1 : Int32) (c2 : Int32) (c3 : Int32) (h0 : Heap) (n0 : Nat) (Z0 : n0 ≤ h0.size) (hE : Exa Z h0 a0 "java/lang/String") (hSt : own_St4 Z h0 a0 c0 c1 c2 c3) (hS : Sta Z h0 "java/lang/String" "COMPACT_STRINGS" "Z" (.int wC)) (hw0 : ¬ wC = (0 : Int32)) (hfm : fm.isRef = true) (hF : Sta Z h0 "jdk/internal/util/Preconditions" "SIOOBE_FORMATTER" "Ljava/util/function/BiFunction;" fm) (sA : Sta Z h0 "java/lang/StringUTF16" "$assertionsDisabled" "Z" (.int (1 : Int32))) (sH : Sta Z h0 "java/lang/StringUTF16" "HI_BYTE_SHIFT" "I" (.int (0 : Int32))) (sL : Sta Z h0 "java/lang/StringUTF16" "LO_BYTE_SHIFT" "I" (.int (8 : Int32))) (hg : 0 ≤ c2.toInt ∧ c2.toInt < 65536) :
    own_Met l mN14 jdk_42_method_56_code 2 (some .char) ws ({ frames := 4, cells := 0, slots := 0, locals := 53 } : Room) #[(.ref a0), (.int (2 : Int32))] Z h0 (fun v h L => v = some (.int c2) ∧ Fr n0 L ∧ h = h0) := by
  rcases hSt with ⟨ab, kb, hV, hC, hB, lt0, lt1, lt2, lt3⟩ | ⟨ab, kb, hV, hC, hB⟩
  · exact rmCh0 l Z av0 hw ws a0 ab kb wC (4 : Int32) [(.int (own_b c0)), (.int (own_b c1)), (.int (own_b c2)), (.int (own_b c3))] (2 : Int32) fm c2 h0 n0 Z0 hE hV hC hB hS hw0 hfm hF (by decide) (by decide) rfl ⟨hg.1, lt2⟩
  · exact rmCh1 l Z av0 hw ws a0 ab kb wC (8 : Int32) [(.int (own_lo c0)), (.int (own_hi c0)), (.int (own_lo c1)), (.int (own_hi c1)), (.int (own_lo c2)), (.int (own_hi c2)), (.int (own_lo c3)), (.int (own_hi c3))] (2 : Int32) fm c2 h0 n0 Z0 hE hV hC hB hS hw0 hfm hF sA sH sL (by decide) (by decide) (by decide) (by decide) rfl rfl hg
theorem rmChJ_4_3 (l : Launch) (Z : State) (av0 : Array Value) (hw : ∀ d ∈ tables_1, d.before av0 Z = true) (ws : List Jvm.Cond) (a0 : Addr) (wC : Int32) (fm : Value) (c0 : Int32) (c1 : Int32) (c2 : Int32) (c3 : Int32) (h0 : Heap) (n0 : Nat) (Z0 : n0 ≤ h0.size) (hE : Exa Z h0 a0 "java/lang/String") (hSt : own_St4 Z h0 a0 c0 c1 c2 c3) (hS : Sta Z h0 "java/lang/String" "COMPACT_STRINGS" "Z" (.int wC)) (hw0 : ¬ wC = (0 : Int32)) (hfm : fm.isRef = true) (hF : Sta Z h0 "jdk/internal/util/Preconditions" "SIOOBE_FORMATTER" "Ljava/util/function/BiFunction;" fm) (sA : Sta Z h0 "java/lang/StringUTF16" "$assertionsDisabled" "Z" (.int (1 : Int32))) (sH : Sta Z h0 "java/lang/StringUTF16" "HI_BYTE_SHIFT" "I" (.int (0 : Int32))) (sL : Sta Z h0 "java/lang/StringUTF16" "LO_BYTE_SHIFT" "I" (.int (8 : Int32))) (hg : 0 ≤ c3.toInt ∧ c3.toInt < 65536) :
    own_Met l mN14 jdk_42_method_56_code 2 (some .char) ws ({ frames := 4, cells := 0, slots := 0, locals := 53 } : Room) #[(.ref a0), (.int (3 : Int32))] Z h0 (fun v h L => v = some (.int c3) ∧ Fr n0 L ∧ h = h0) := by
  rcases hSt with ⟨ab, kb, hV, hC, hB, lt0, lt1, lt2, lt3⟩ | ⟨ab, kb, hV, hC, hB⟩
  · exact rmCh0 l Z av0 hw ws a0 ab kb wC (4 : Int32) [(.int (own_b c0)), (.int (own_b c1)), (.int (own_b c2)), (.int (own_b c3))] (3 : Int32) fm c3 h0 n0 Z0 hE hV hC hB hS hw0 hfm hF (by decide) (by decide) rfl ⟨hg.1, lt3⟩
  · exact rmCh1 l Z av0 hw ws a0 ab kb wC (8 : Int32) [(.int (own_lo c0)), (.int (own_hi c0)), (.int (own_lo c1)), (.int (own_hi c1)), (.int (own_lo c2)), (.int (own_hi c2)), (.int (own_lo c3)), (.int (own_hi c3))] (3 : Int32) fm c3 h0 n0 Z0 hE hV hC hB hS hw0 hfm hF sA sH sL (by decide) (by decide) (by decide) (by decide) rfl rfl hg
def QrmNs_4 (Z : State) (a0 : Addr) (wC : Int32) (fm : Value) (c0 : Int32) (c1 : Int32) (c2 : Int32) (c3 : Int32) (h0 : Heap) (n0 : Nat) (v : Option Value) (h : Heap) (L : List Loc) : Prop := v = some (.int (own_ns [c0, c1, c2, c3])) ∧ Fr n0 L ∧ h = h0
set_option maxRecDepth 65536 in
set_option maxHeartbeats 40000000 in
theorem rmNs_4 (l : Launch) (Z : State) (av0 : Array Value) (hw : ∀ d ∈ tables_1, d.before av0 Z = true) (ws : List Jvm.Cond) (a0 : Addr) (wC : Int32) (fm : Value) (c0 : Int32) (c1 : Int32) (c2 : Int32) (c3 : Int32) (h0 : Heap) (n0 : Nat) (Z0 : n0 ≤ h0.size) (hE : Exa Z h0 a0 "java/lang/String") (hSt : own_St4 Z h0 a0 c0 c1 c2 c3) (hS : Sta Z h0 "java/lang/String" "COMPACT_STRINGS" "Z" (.int wC)) (hw0 : ¬ wC = (0 : Int32)) (hfm : fm.isRef = true) (hF : Sta Z h0 "jdk/internal/util/Preconditions" "SIOOBE_FORMATTER" "Ljava/util/function/BiFunction;" fm) (sA : Sta Z h0 "java/lang/StringUTF16" "$assertionsDisabled" "Z" (.int (1 : Int32))) (sH : Sta Z h0 "java/lang/StringUTF16" "HI_BYTE_SHIFT" "I" (.int (0 : Int32))) (sL : Sta Z h0 "java/lang/StringUTF16" "LO_BYTE_SHIFT" "I" (.int (8 : Int32))) (hg0 : 0 ≤ c0.toInt ∧ c0.toInt < 65536) (hg1 : 0 ≤ c1.toInt ∧ c1.toInt < 65536) (hg2 : 0 ≤ c2.toInt ∧ c2.toInt < 65536) (hg3 : 0 ≤ c3.toInt ∧ c3.toInt < 65536) :
    own_Met l mN6 prog_60_method_4_code 4 (some .boolean) ws ({ frames := 5, cells := 0, slots := 0, locals := 66 } : Room) #[(.ref a0)] Z h0 (QrmNs_4 Z a0 wC fm c0 c1 c2 c3 h0 n0) := by
  refine MetFree.of_bodySF (plainFor_of_name pn_XsNames) hisR ?_
  intro p e s m args below meth c s₁ Bd hml0 hP hK
  obtain ⟨rfl, hZ, hh⟩ := hP
  have hml : c.maxLocals = 4 := hml0
  obtain ⟨hx, hby, hown, hnm, X0, e0⟩ := own_start Bd hml0 hh
  have N0 := Fr.nil n0
  have pre0 : ∀ t, oS p e below s₁ (mkF m 0 #[rv a0, .unset, .unset, .unset] []) t → Steps p.tables e below (s₁.setTop (entryFrame m #[(.ref a0)] 4)) t := fun t k => castTop (by first | (simp [entryFrame, mkF, argsToLocals, Value.category]; done) | rfl) k
  obtain ⟨_, T1, Lc1, X1, hQ1, st1⟩ := own_virtual (W := 1) (y := mN5) (z := mN5) X0 hx hZ hown (hw _ (own_w 27 rfl)) (hw _ (own_w 28 rfl)) (notFace_of_selects (args := #[]) (mvT hZ (hw _ (own_w 30 rfl)))) (hw _ (own_w 30 rfl)) (hw _ (own_w 29 rfl)) (hw _ (own_w 31 rfl)) (hw _ (own_w 4 rfl)) (by decide) (rmLenJ_4 l Z av0 hw [] a0 wC fm c0 c1 c2 c3 h0 n0 Z0 hE hSt hS hw0) (by decide) (by decide) hE (g := (mkF m 6 #[rv a0, iv 1, iv 0, .unset] [(.ref a0), (.int 0)])) rfl (by rw [hml]; rfl) (argsL := []) (rest := [(.int 0)]) (lenOf pd__I rfl) rfl (hb hby d4_6) rfl e0 (by decide : 0 + 0 ≤ _) (by decide : 0 + 0 ≤ _)
  obtain ⟨rfl, N1q, hh1⟩ := hQ1
  have N1 := Fr.app N0 N1q
  have e1 : T1.heap = h0 := hh1
  obtain ⟨_, T2, Lc2, X2, hQ2, st2⟩ := own_virtual (W := 0) (y := mN14) (z := mN14) X1 hx hZ hown (hw _ (own_w 52 rfl)) (hw _ (own_w 53 rfl)) (notFace_of_selects (args := #[]) (mvT hZ (hw _ (own_w 55 rfl)))) (hw _ (own_w 55 rfl)) (hw _ (own_w 54 rfl)) (hw _ (own_w 56 rfl)) (hw _ (own_w 4 rfl)) (by decide) (rmChJ_4_0 l Z av0 hw [] a0 wC fm c0 c1 c2 c3 h0 n0 Z0 hE hSt hS hw0 hfm hF sA sH sL hg0) (by decide) (by decide) hE (g := (mkF m 18 #[rv a0, iv 1, iv 0, .unset] [(.int 0), (.ref a0)])) rfl (by rw [hml]; rfl) (argsL := [(.int 0)]) (rest := []) (lenOf pd__I_C rfl) rfl (hb hby d4_18) rfl e1 (by decide : 0 + 0 ≤ _) (by decide : 0 + 0 ≤ _)
  obtain ⟨rfl, N2q, hh2⟩ := hQ2
  have N2 := Fr.app N1 N2q
  have e2 : T2.heap = h0 := hh2
  have S3 : ∀ t, oS p e below T2 (mkF m 25 #[rv a0, iv 1, iv 0, iv c0] [(.int 32), (.int c0)]) t → oS p e below s₁ (mkF m 0 #[rv a0, .unset, .unset, .unset] []) t := fun t k => id (by
    show oS p e below s₁ (mkF m 0 #[rv a0, .unset, .unset, .unset] []) _
    refine XT.iconstV X0.here hx rfl (1 : Int32) (hb hby d4_0) (by decide) ?_
    refine XS.istoreN X0.here hx rfl (hb hby d4_1) rfl (l' := #[rv a0, iv 1, .unset, .unset]) rfl ?_
    refine XT.iconstV X0.here hx rfl (0 : Int32) (hb hby d4_2) (by decide) ?_
    refine XS.istoreN X0.here hx rfl (hb hby d4_3) rfl (l' := #[rv a0, iv 1, iv 0, .unset]) rfl ?_
    refine XS.iloadN X0.here hx rfl (hb hby d4_4) rfl ?_
    refine XS.aloadN X0.here hx rfl (hb hby d4_5) rfl rfl ?_
    refine st1 _ ?_
    refine XS.icmpNo X1.here hx rfl (hb hby d4_9) rfl (XT.ii_ge_f (by decide)) ?_
    refine XS.iloadN X1.here hx rfl (hb hby d4_12) rfl ?_
    refine XS.ifNo X1.here hx rfl (hb hby d4_13) rfl (XT.i0_eq_f (by decide)) ?_
    refine XS.aloadN X1.here hx rfl (hb hby d4_16) rfl rfl ?_
    refine XS.iloadN X1.here hx rfl (hb hby d4_17) rfl ?_
    refine st2 _ ?_
    refine XS.istoreN X2.here hx rfl (hb hby d4_21) rfl (l' := #[rv a0, iv 1, iv 0, iv c0]) rfl ?_
    refine XS.iloadN X2.here hx rfl (hb hby d4_22) rfl ?_
    refine XT.bipushV X2.here hx rfl (32 : Int32) (hb hby d4_23) (by decide) ?_
    exact k)
  by_cases hc25_4 : c0 = (32 : Int32)
  · obtain ⟨_, T5, Lc5, X5, hQ5, st5⟩ := own_virtual (W := 1) (y := mN5) (z := mN5) X2 hx hZ hown (hw _ (own_w 27 rfl)) (hw _ (own_w 28 rfl)) (notFace_of_selects (args := #[]) (mvT hZ (hw _ (own_w 30 rfl)))) (hw _ (own_w 30 rfl)) (hw _ (own_w 29 rfl)) (hw _ (own_w 31 rfl)) (hw _ (own_w 4 rfl)) (by decide) (rmLenJ_4 l Z av0 hw [] a0 wC fm c0 c1 c2 c3 h0 n0 Z0 hE hSt hS hw0) (by decide) (by decide) hE (g := (mkF m 6 #[rv a0, iv 0, iv 1, iv c0] [(.ref a0), (.int 1)])) rfl (by rw [hml]; rfl) (argsL := []) (rest := [(.int 1)]) (lenOf pd__I rfl) rfl (hb hby d4_6) rfl e2 (by decide : 0 + 0 ≤ _) (by decide : 0 + 0 ≤ _)
    obtain ⟨rfl, N5q, hh5⟩ := hQ5
    have N5 := Fr.app N2 N5q
    have e5 : T5.heap = h0 := hh5
    have S6 : ∀ t, oS p e below T5 (mkF m 48 #[rv a0, iv 0, iv 1, iv c0] [(.int 0)]) t → oS p e below s₁ (mkF m 0 #[rv a0, .unset, .unset, .unset] []) t := fun t k => S3 t (by
      show oS p e below T2 (mkF m 25 #[rv a0, iv 1, iv 0, iv c0] [(.int 32), (.int c0)]) _
      refine XS.icmpYes X2.here hx rfl (pc0 := 25) (pc' := 39) rfl (hb hby d4_25) rfl (XT.ii_eq_t hc25_4) (by decide) (by decide) ?_
      refine XT.iconstV X2.here hx rfl (0 : Int32) (hb hby d4_39) (by decide) ?_
      refine XS.istoreN X2.here hx rfl (hb hby d4_40) rfl (l' := #[rv a0, iv 0, iv 0, iv c0]) rfl ?_
      refine XT.iincV X2.here hx rfl (1 : Int32) (hb hby d4_41) (by decide) rfl (l' := #[rv a0, iv 0, iv 1, iv c0]) rfl ?_
      show oS p e below T2 (mkF m 44 #[rv a0, iv 0, iv 1, iv c0] []) _
      refine XS.goto X2.here hx rfl (pc0 := 44) (pc' := 4) rfl (hb hby d4_44) (by decide) (by decide) ?_
      refine XS.iloadN X2.here hx rfl (hb hby d4_4) rfl ?_
      refine XS.aloadN X2.here hx rfl (hb hby d4_5) rfl rfl ?_
      refine st5 _ ?_
      refine XS.icmpNo X5.here hx rfl (hb hby d4_9) rfl (XT.ii_ge_f (by decide)) ?_
      refine XS.iloadN X5.here hx rfl (hb hby d4_12) rfl ?_
      refine XS.ifYes X5.here hx rfl (pc0 := 13) (pc' := 47) rfl (hb hby d4_13) rfl (XT.i0_eq_t (by decide)) (by decide) (by decide) ?_
      refine XS.iloadN X5.here hx rfl (hb hby d4_47) rfl ?_
      exact k)
    obtain ⟨fs, hr, hrun, hended, hW, hsame⟩ := X5.leave (v := some (.int 0)) (fun h => by rw [Bd.returns] at h; cases h)
    refine ⟨_, _, pre0 _ (S6 _ ?_), hrun, hended, _, _, rfl, ?_, ⟨_, rfl⟩, hW, hsame.mono (by decide) (by decide)⟩
    · exact retN X5 hx (t := .boolean) Bd.returns (by simp) (hb hby d4_48) hr
    · show QrmNs_4 Z a0 wC fm c0 c1 c2 c3 h0 n0 _ T5.heap _
      rw [e5]
      exact ⟨by simp [own_ns, hc25_4], N5, rfl⟩
  · obtain ⟨_, T7, Lc7, X7, hQ7, st7⟩ := own_callS (W := 0) (y := mN0) X2 hx hZ hown (hw _ (own_w 74 rfl)) (hw _ (own_w 75 rfl)) (hw _ (own_w 76 rfl)) (hw _ (own_w 77 rfl)) (by decide) (rmB l Z av0 hw [] c0 h0 n0 Z0 ) (by decide) (by decide) (g := (mkF m 29 #[rv a0, iv 1, iv 0, iv c0] [(.int c0)])) rfl (by rw [hml]; rfl) (argsL := [(.int c0)]) (rest := []) (lenOf pd__C_Z rfl) rfl (hb hby d4_29) rfl e2 (by decide : 0 + 0 ≤ _) (by decide : 0 + 0 ≤ _)
    obtain ⟨rfl, N7q, hh7⟩ := hQ7
    have N7 := Fr.app N2 N7q
    have e7 : T7.heap = h0 := hh7
    have S8 : ∀ t, oS p e below T7 (mkF m 32 #[rv a0, iv 1, iv 0, iv c0] [(.int (own_bl c0))]) t → oS p e below s₁ (mkF m 0 #[rv a0, .unset, .unset, .unset] []) t := fun t k => S3 t (by
      show oS p e below T2 (mkF m 25 #[rv a0, iv 1, iv 0, iv c0] [(.int 32), (.int c0)]) _
      refine XS.icmpNo X2.here hx rfl (hb hby d4_25) rfl (XT.ii_eq_f hc25_4) ?_
      refine XS.iloadN X2.here hx rfl (hb hby d4_28) rfl ?_
      refine st7 _ ?_
      exact k)
    by_cases hc32_9 : (own_bl c0) = (0 : Int32)
    · obtain ⟨_, T10, Lc10, X10, hQ10, st10⟩ := own_virtual (W := 1) (y := mN5) (z := mN5) X7 hx hZ hown (hw _ (own_w 27 rfl)) (hw _ (own_w 28 rfl)) (notFace_of_selects (args := #[]) (mvT hZ (hw _ (own_w 30 rfl)))) (hw _ (own_w 30 rfl)) (hw _ (own_w 29 rfl)) (hw _ (own_w 31 rfl)) (hw _ (own_w 4 rfl)) (by decide) (rmLenJ_4 l Z av0 hw [] a0 wC fm c0 c1 c2 c3 h0 n0 Z0 hE hSt hS hw0) (by decide) (by decide) hE (g := (mkF m 6 #[rv a0, iv 1, iv 1, iv c0] [(.ref a0), (.int 1)])) rfl (by rw [hml]; rfl) (argsL := []) (rest := [(.int 1)]) (lenOf pd__I rfl) rfl (hb hby d4_6) rfl e7 (by decide : 0 + 0 ≤ _) (by decide : 0 + 0 ≤ _)
      obtain ⟨rfl, N10q, hh10⟩ := hQ10
      have N10 := Fr.app N7 N10q
      have e10 : T10.heap = h0 := hh10
      obtain ⟨_, T11, Lc11, X11, hQ11, st11⟩ := own_virtual (W := 0) (y := mN14) (z := mN14) X10 hx hZ hown (hw _ (own_w 52 rfl)) (hw _ (own_w 53 rfl)) (notFace_of_selects (args := #[]) (mvT hZ (hw _ (own_w 55 rfl)))) (hw _ (own_w 55 rfl)) (hw _ (own_w 54 rfl)) (hw _ (own_w 56 rfl)) (hw _ (own_w 4 rfl)) (by decide) (rmChJ_4_1 l Z av0 hw [] a0 wC fm c0 c1 c2 c3 h0 n0 Z0 hE hSt hS hw0 hfm hF sA sH sL hg1) (by decide) (by decide) hE (g := (mkF m 18 #[rv a0, iv 1, iv 1, iv c0] [(.int 1), (.ref a0)])) rfl (by rw [hml]; rfl) (argsL := [(.int 1)]) (rest := []) (lenOf pd__I_C rfl) rfl (hb hby d4_18) rfl e10 (by decide : 0 + 0 ≤ _) (by decide : 0 + 0 ≤ _)
      obtain ⟨rfl, N11q, hh11⟩ := hQ11
      have N11 := Fr.app N10 N11q
      have e11 : T11.heap = h0 := hh11
      have S12 : ∀ t, oS p e below T11 (mkF m 25 #[rv a0, iv 1, iv 1, iv c1] [(.int 32), (.int c1)]) t → oS p e below s₁ (mkF m 0 #[rv a0, .unset, .unset, .unset] []) t := fun t k => S8 t (by
        show oS p e below T7 (mkF m 32 #[rv a0, iv 1, iv 0, iv c0] [(.int (own_bl c0))]) _
        refine XS.ifNo X7.here hx rfl (hb hby d4_32) rfl (XT.i0_ne_f hc32_9) ?_
        show oS p e below T7 (mkF m 35 #[rv a0, iv 1, iv 0, iv c0] []) _
        refine XT.iconstV X7.here hx rfl (1 : Int32) (hb hby d4_35) (by decide) ?_
        refine XS.goto X7.here hx rfl (pc0 := 36) (pc' := 40) rfl (hb hby d4_36) (by decide) (by decide) ?_
        refine XS.istoreN X7.here hx rfl (hb hby d4_40) rfl (l' := #[rv a0, iv 1, iv 0, iv c0]) rfl ?_
        refine XT.iincV X7.here hx rfl (1 : Int32) (hb hby d4_41) (by decide) rfl (l' := #[rv a0, iv 1, iv 1, iv c0]) rfl ?_
        refine XS.goto X7.here hx rfl (pc0 := 44) (pc' := 4) rfl (hb hby d4_44) (by decide) (by decide) ?_
        refine XS.iloadN X7.here hx rfl (hb hby d4_4) rfl ?_
        refine XS.aloadN X7.here hx rfl (hb hby d4_5) rfl rfl ?_
        refine st10 _ ?_
        refine XS.icmpNo X10.here hx rfl (hb hby d4_9) rfl (XT.ii_ge_f (by decide)) ?_
        refine XS.iloadN X10.here hx rfl (hb hby d4_12) rfl ?_
        refine XS.ifNo X10.here hx rfl (hb hby d4_13) rfl (XT.i0_eq_f (by decide)) ?_
        refine XS.aloadN X10.here hx rfl (hb hby d4_16) rfl rfl ?_
        refine XS.iloadN X10.here hx rfl (hb hby d4_17) rfl ?_
        refine st11 _ ?_
        refine XS.istoreN X11.here hx rfl (hb hby d4_21) rfl (l' := #[rv a0, iv 1, iv 1, iv c1]) rfl ?_
        refine XS.iloadN X11.here hx rfl (hb hby d4_22) rfl ?_
        refine XT.bipushV X11.here hx rfl (32 : Int32) (hb hby d4_23) (by decide) ?_
        exact k)
      by_cases hc25_13 : c1 = (32 : Int32)
      · obtain ⟨_, T14, Lc14, X14, hQ14, st14⟩ := own_virtual (W := 1) (y := mN5) (z := mN5) X11 hx hZ hown (hw _ (own_w 27 rfl)) (hw _ (own_w 28 rfl)) (notFace_of_selects (args := #[]) (mvT hZ (hw _ (own_w 30 rfl)))) (hw _ (own_w 30 rfl)) (hw _ (own_w 29 rfl)) (hw _ (own_w 31 rfl)) (hw _ (own_w 4 rfl)) (by decide) (rmLenJ_4 l Z av0 hw [] a0 wC fm c0 c1 c2 c3 h0 n0 Z0 hE hSt hS hw0) (by decide) (by decide) hE (g := (mkF m 6 #[rv a0, iv 0, iv 2, iv c1] [(.ref a0), (.int 2)])) rfl (by rw [hml]; rfl) (argsL := []) (rest := [(.int 2)]) (lenOf pd__I rfl) rfl (hb hby d4_6) rfl e11 (by decide : 0 + 0 ≤ _) (by decide : 0 + 0 ≤ _)
        obtain ⟨rfl, N14q, hh14⟩ := hQ14
        have N14 := Fr.app N11 N14q
        have e14 : T14.heap = h0 := hh14
        have S15 : ∀ t, oS p e below T14 (mkF m 48 #[rv a0, iv 0, iv 2, iv c1] [(.int 0)]) t → oS p e below s₁ (mkF m 0 #[rv a0, .unset, .unset, .unset] []) t := fun t k => S12 t (by
          show oS p e below T11 (mkF m 25 #[rv a0, iv 1, iv 1, iv c1] [(.int 32), (.int c1)]) _
          refine XS.icmpYes X11.here hx rfl (pc0 := 25) (pc' := 39) rfl (hb hby d4_25) rfl (XT.ii_eq_t hc25_13) (by decide) (by decide) ?_
          refine XT.iconstV X11.here hx rfl (0 : Int32) (hb hby d4_39) (by decide) ?_
          refine XS.istoreN X11.here hx rfl (hb hby d4_40) rfl (l' := #[rv a0, iv 0, iv 1, iv c1]) rfl ?_
          show oS p e below T11 (mkF m 41 #[rv a0, iv 0, iv 1, iv c1] []) _
          refine XT.iincV X11.here hx rfl (1 : Int32) (hb hby d4_41) (by decide) rfl (l' := #[rv a0, iv 0, iv 2, iv c1]) rfl ?_
          refine XS.goto X11.here hx rfl (pc0 := 44) (pc' := 4) rfl (hb hby d4_44) (by decide) (by decide) ?_
          refine XS.iloadN X11.here hx rfl (hb hby d4_4) rfl ?_
          refine XS.aloadN X11.here hx rfl (hb hby d4_5) rfl rfl ?_
          refine st14 _ ?_
          refine XS.icmpNo X14.here hx rfl (hb hby d4_9) rfl (XT.ii_ge_f (by decide)) ?_
          refine XS.iloadN X14.here hx rfl (hb hby d4_12) rfl ?_
          refine XS.ifYes X14.here hx rfl (pc0 := 13) (pc' := 47) rfl (hb hby d4_13) rfl (XT.i0_eq_t (by decide)) (by decide) (by decide) ?_
          refine XS.iloadN X14.here hx rfl (hb hby d4_47) rfl ?_
          exact k)
        obtain ⟨fs, hr, hrun, hended, hW, hsame⟩ := X14.leave (v := some (.int 0)) (fun h => by rw [Bd.returns] at h; cases h)
        refine ⟨_, _, pre0 _ (S15 _ ?_), hrun, hended, _, _, rfl, ?_, ⟨_, rfl⟩, hW, hsame.mono (by decide) (by decide)⟩
        · exact retN X14 hx (t := .boolean) Bd.returns (by simp) (hb hby d4_48) hr
        · show QrmNs_4 Z a0 wC fm c0 c1 c2 c3 h0 n0 _ T14.heap _
          rw [e14]
          exact ⟨by simp [own_ns, hc25_4, hc32_9, hc25_13], N14, rfl⟩
      · obtain ⟨_, T16, Lc16, X16, hQ16, st16⟩ := own_callS (W := 0) (y := mN0) X11 hx hZ hown (hw _ (own_w 74 rfl)) (hw _ (own_w 75 rfl)) (hw _ (own_w 76 rfl)) (hw _ (own_w 77 rfl)) (by decide) (rmB l Z av0 hw [] c1 h0 n0 Z0 ) (by decide) (by decide) (g := (mkF m 29 #[rv a0, iv 1, iv 1, iv c1] [(.int c1)])) rfl (by rw [hml]; rfl) (argsL := [(.int c1)]) (rest := []) (lenOf pd__C_Z rfl) rfl (hb hby d4_29) rfl e11 (by decide : 0 + 0 ≤ _) (by decide : 0 + 0 ≤ _)
        obtain ⟨rfl, N16q, hh16⟩ := hQ16
        have N16 := Fr.app N11 N16q
        have e16 : T16.heap = h0 := hh16
        have S17 : ∀ t, oS p e below T16 (mkF m 32 #[rv a0, iv 1, iv 1, iv c1] [(.int (own_bl c1))]) t → oS p e below s₁ (mkF m 0 #[rv a0, .unset, .unset, .unset] []) t := fun t k => S12 t (by
          show oS p e below T11 (mkF m 25 #[rv a0, iv 1, iv 1, iv c1] [(.int 32), (.int c1)]) _
          refine XS.icmpNo X11.here hx rfl (hb hby d4_25) rfl (XT.ii_eq_f hc25_13) ?_
          refine XS.iloadN X11.here hx rfl (hb hby d4_28) rfl ?_
          refine st16 _ ?_
          show oS p e below T16 (mkF m 32 #[rv a0, iv 1, iv 1, iv c1] [(.int (own_bl c1))]) _
          exact k)
        by_cases hc32_18 : (own_bl c1) = (0 : Int32)
        · obtain ⟨_, T19, Lc19, X19, hQ19, st19⟩ := own_virtual (W := 1) (y := mN5) (z := mN5) X16 hx hZ hown (hw _ (own_w 27 rfl)) (hw _ (own_w 28 rfl)) (notFace_of_selects (args := #[]) (mvT hZ (hw _ (own_w 30 rfl)))) (hw _ (own_w 30 rfl)) (hw _ (own_w 29 rfl)) (hw _ (own_w 31 rfl)) (hw _ (own_w 4 rfl)) (by decide) (rmLenJ_4 l Z av0 hw [] a0 wC fm c0 c1 c2 c3 h0 n0 Z0 hE hSt hS hw0) (by decide) (by decide) hE (g := (mkF m 6 #[rv a0, iv 1, iv 2, iv c1] [(.ref a0), (.int 2)])) rfl (by rw [hml]; rfl) (argsL := []) (rest := [(.int 2)]) (lenOf pd__I rfl) rfl (hb hby d4_6) rfl e16 (by decide : 0 + 0 ≤ _) (by decide : 0 + 0 ≤ _)
          obtain ⟨rfl, N19q, hh19⟩ := hQ19
          have N19 := Fr.app N16 N19q
          have e19 : T19.heap = h0 := hh19
          obtain ⟨_, T20, Lc20, X20, hQ20, st20⟩ := own_virtual (W := 0) (y := mN14) (z := mN14) X19 hx hZ hown (hw _ (own_w 52 rfl)) (hw _ (own_w 53 rfl)) (notFace_of_selects (args := #[]) (mvT hZ (hw _ (own_w 55 rfl)))) (hw _ (own_w 55 rfl)) (hw _ (own_w 54 rfl)) (hw _ (own_w 56 rfl)) (hw _ (own_w 4 rfl)) (by decide) (rmChJ_4_2 l Z av0 hw [] a0 wC fm c0 c1 c2 c3 h0 n0 Z0 hE hSt hS hw0 hfm hF sA sH sL hg2) (by decide) (by decide) hE (g := (mkF m 18 #[rv a0, iv 1, iv 2, iv c1] [(.int 2), (.ref a0)])) rfl (by rw [hml]; rfl) (argsL := [(.int 2)]) (rest := []) (lenOf pd__I_C rfl) rfl (hb hby d4_18) rfl e19 (by decide : 0 + 0 ≤ _) (by decide : 0 + 0 ≤ _)
          obtain ⟨rfl, N20q, hh20⟩ := hQ20
          have N20 := Fr.app N19 N20q
          have e20 : T20.heap = h0 := hh20
          have S21 : ∀ t, oS p e below T20 (mkF m 25 #[rv a0, iv 1, iv 2, iv c2] [(.int 32), (.int c2)]) t → oS p e below s₁ (mkF m 0 #[rv a0, .unset, .unset, .unset] []) t := fun t k => S17 t (by
            show oS p e below T16 (mkF m 32 #[rv a0, iv 1, iv 1, iv c1] [(.int (own_bl c1))]) _
            refine XS.ifNo X16.here hx rfl (hb hby d4_32) rfl (XT.i0_ne_f hc32_18) ?_
            refine XT.iconstV X16.here hx rfl (1 : Int32) (hb hby d4_35) (by decide) ?_
            refine XS.goto X16.here hx rfl (pc0 := 36) (pc' := 40) rfl (hb hby d4_36) (by decide) (by decide) ?_
            refine XS.istoreN X16.here hx rfl (hb hby d4_40) rfl (l' := #[rv a0, iv 1, iv 1, iv c1]) rfl ?_
            refine XT.iincV X16.here hx rfl (1 : Int32) (hb hby d4_41) (by decide) rfl (l' := #[rv a0, iv 1, iv 2, iv c1]) rfl ?_
            refine XS.goto X16.here hx rfl (pc0 := 44) (pc' := 4) rfl (hb hby d4_44) (by decide) (by decide) ?_
            refine XS.iloadN X16.here hx rfl (hb hby d4_4) rfl ?_
            refine XS.aloadN X16.here hx rfl (hb hby d4_5) rfl rfl ?_
            refine st19 _ ?_
            refine XS.icmpNo X19.here hx rfl (hb hby d4_9) rfl (XT.ii_ge_f (by decide)) ?_
            refine XS.iloadN X19.here hx rfl (hb hby d4_12) rfl ?_
            refine XS.ifNo X19.here hx rfl (hb hby d4_13) rfl (XT.i0_eq_f (by decide)) ?_
            refine XS.aloadN X19.here hx rfl (hb hby d4_16) rfl rfl ?_
            refine XS.iloadN X19.here hx rfl (hb hby d4_17) rfl ?_
            refine st20 _ ?_
            refine XS.istoreN X20.here hx rfl (hb hby d4_21) rfl (l' := #[rv a0, iv 1, iv 2, iv c2]) rfl ?_
            refine XS.iloadN X20.here hx rfl (hb hby d4_22) rfl ?_
            refine XT.bipushV X20.here hx rfl (32 : Int32) (hb hby d4_23) (by decide) ?_
            exact k)
          by_cases hc25_22 : c2 = (32 : Int32)
          · obtain ⟨_, T23, Lc23, X23, hQ23, st23⟩ := own_virtual (W := 1) (y := mN5) (z := mN5) X20 hx hZ hown (hw _ (own_w 27 rfl)) (hw _ (own_w 28 rfl)) (notFace_of_selects (args := #[]) (mvT hZ (hw _ (own_w 30 rfl)))) (hw _ (own_w 30 rfl)) (hw _ (own_w 29 rfl)) (hw _ (own_w 31 rfl)) (hw _ (own_w 4 rfl)) (by decide) (rmLenJ_4 l Z av0 hw [] a0 wC fm c0 c1 c2 c3 h0 n0 Z0 hE hSt hS hw0) (by decide) (by decide) hE (g := (mkF m 6 #[rv a0, iv 0, iv 3, iv c2] [(.ref a0), (.int 3)])) rfl (by rw [hml]; rfl) (argsL := []) (rest := [(.int 3)]) (lenOf pd__I rfl) rfl (hb hby d4_6) rfl e20 (by decide : 0 + 0 ≤ _) (by decide : 0 + 0 ≤ _)
            obtain ⟨rfl, N23q, hh23⟩ := hQ23
            have N23 := Fr.app N20 N23q
            have e23 : T23.heap = h0 := hh23
            have S24 : ∀ t, oS p e below T23 (mkF m 48 #[rv a0, iv 0, iv 3, iv c2] [(.int 0)]) t → oS p e below s₁ (mkF m 0 #[rv a0, .unset, .unset, .unset] []) t := fun t k => S21 t (by
              show oS p e below T20 (mkF m 25 #[rv a0, iv 1, iv 2, iv c2] [(.int 32), (.int c2)]) _
              refine XS.icmpYes X20.here hx rfl (pc0 := 25) (pc' := 39) rfl (hb hby d4_25) rfl (XT.ii_eq_t hc25_22) (by decide) (by decide) ?_
              refine XT.iconstV X20.here hx rfl (0 : Int32) (hb hby d4_39) (by decide) ?_
              show oS p e below T20 (mkF m 40 #[rv a0, iv 1, iv 2, iv c2] [(.int 0)]) _
              refine XS.istoreN X20.here hx rfl (hb hby d4_40) rfl (l' := #[rv a0, iv 0, iv 2, iv c2]) rfl ?_
              refine XT.iincV X20.here hx rfl (1 : Int32) (hb hby d4_41) (by decide) rfl (l' := #[rv a0, iv 0, iv 3, iv c2]) rfl ?_
              refine XS.goto X20.here hx rfl (pc0 := 44) (pc' := 4) rfl (hb hby d4_44) (by decide) (by decide) ?_
              refine XS.iloadN X20.here hx rfl (hb hby d4_4) rfl ?_
              refine XS.aloadN X20.here hx rfl (hb hby d4_5) rfl rfl ?_
              refine st23 _ ?_
              refine XS.icmpNo X23.here hx rfl (hb hby d4_9) rfl (XT.ii_ge_f (by decide)) ?_
              refine XS.iloadN X23.here hx rfl (hb hby d4_12) rfl ?_
              refine XS.ifYes X23.here hx rfl (pc0 := 13) (pc' := 47) rfl (hb hby d4_13) rfl (XT.i0_eq_t (by decide)) (by decide) (by decide) ?_
              refine XS.iloadN X23.here hx rfl (hb hby d4_47) rfl ?_
              exact k)
            obtain ⟨fs, hr, hrun, hended, hW, hsame⟩ := X23.leave (v := some (.int 0)) (fun h => by rw [Bd.returns] at h; cases h)
            refine ⟨_, _, pre0 _ (S24 _ ?_), hrun, hended, _, _, rfl, ?_, ⟨_, rfl⟩, hW, hsame.mono (by decide) (by decide)⟩
            · exact retN X23 hx (t := .boolean) Bd.returns (by simp) (hb hby d4_48) hr
            · show QrmNs_4 Z a0 wC fm c0 c1 c2 c3 h0 n0 _ T23.heap _
              rw [e23]
              exact ⟨by simp [own_ns, hc25_4, hc32_9, hc25_13, hc32_18, hc25_22], N23, rfl⟩
          · obtain ⟨_, T25, Lc25, X25, hQ25, st25⟩ := own_callS (W := 0) (y := mN0) X20 hx hZ hown (hw _ (own_w 74 rfl)) (hw _ (own_w 75 rfl)) (hw _ (own_w 76 rfl)) (hw _ (own_w 77 rfl)) (by decide) (rmB l Z av0 hw [] c2 h0 n0 Z0 ) (by decide) (by decide) (g := (mkF m 29 #[rv a0, iv 1, iv 2, iv c2] [(.int c2)])) rfl (by rw [hml]; rfl) (argsL := [(.int c2)]) (rest := []) (lenOf pd__C_Z rfl) rfl (hb hby d4_29) rfl e20 (by decide : 0 + 0 ≤ _) (by decide : 0 + 0 ≤ _)
            obtain ⟨rfl, N25q, hh25⟩ := hQ25
            have N25 := Fr.app N20 N25q
            have e25 : T25.heap = h0 := hh25
            have S26 : ∀ t, oS p e below T25 (mkF m 32 #[rv a0, iv 1, iv 2, iv c2] [(.int (own_bl c2))]) t → oS p e below s₁ (mkF m 0 #[rv a0, .unset, .unset, .unset] []) t := fun t k => S21 t (by
              show oS p e below T20 (mkF m 25 #[rv a0, iv 1, iv 2, iv c2] [(.int 32), (.int c2)]) _
              refine XS.icmpNo X20.here hx rfl (hb hby d4_25) rfl (XT.ii_eq_f hc25_22) ?_
              refine XS.iloadN X20.here hx rfl (hb hby d4_28) rfl ?_
              show oS p e below T20 (mkF m 29 #[rv a0, iv 1, iv 2, iv c2] [(.int c2)]) _
              refine st25 _ ?_
              exact k)
            by_cases hc32_27 : (own_bl c2) = (0 : Int32)
            · obtain ⟨_, T28, Lc28, X28, hQ28, st28⟩ := own_virtual (W := 1) (y := mN5) (z := mN5) X25 hx hZ hown (hw _ (own_w 27 rfl)) (hw _ (own_w 28 rfl)) (notFace_of_selects (args := #[]) (mvT hZ (hw _ (own_w 30 rfl)))) (hw _ (own_w 30 rfl)) (hw _ (own_w 29 rfl)) (hw _ (own_w 31 rfl)) (hw _ (own_w 4 rfl)) (by decide) (rmLenJ_4 l Z av0 hw [] a0 wC fm c0 c1 c2 c3 h0 n0 Z0 hE hSt hS hw0) (by decide) (by decide) hE (g := (mkF m 6 #[rv a0, iv 1, iv 3, iv c2] [(.ref a0), (.int 3)])) rfl (by rw [hml]; rfl) (argsL := []) (rest := [(.int 3)]) (lenOf pd__I rfl) rfl (hb hby d4_6) rfl e25 (by decide : 0 + 0 ≤ _) (by decide : 0 + 0 ≤ _)
              obtain ⟨rfl, N28q, hh28⟩ := hQ28
              have N28 := Fr.app N25 N28q
              have e28 : T28.heap = h0 := hh28
              obtain ⟨_, T29, Lc29, X29, hQ29, st29⟩ := own_virtual (W := 0) (y := mN14) (z := mN14) X28 hx hZ hown (hw _ (own_w 52 rfl)) (hw _ (own_w 53 rfl)) (notFace_of_selects (args := #[]) (mvT hZ (hw _ (own_w 55 rfl)))) (hw _ (own_w 55 rfl)) (hw _ (own_w 54 rfl)) (hw _ (own_w 56 rfl)) (hw _ (own_w 4 rfl)) (by decide) (rmChJ_4_3 l Z av0 hw [] a0 wC fm c0 c1 c2 c3 h0 n0 Z0 hE hSt hS hw0 hfm hF sA sH sL hg3) (by decide) (by decide) hE (g := (mkF m 18 #[rv a0, iv 1, iv 3, iv c2] [(.int 3), (.ref a0)])) rfl (by rw [hml]; rfl) (argsL := [(.int 3)]) (rest := []) (lenOf pd__I_C rfl) rfl (hb hby d4_18) rfl e28 (by decide : 0 + 0 ≤ _) (by decide : 0 + 0 ≤ _)
              obtain ⟨rfl, N29q, hh29⟩ := hQ29
              have N29 := Fr.app N28 N29q
              have e29 : T29.heap = h0 := hh29
              have S30 : ∀ t, oS p e below T29 (mkF m 25 #[rv a0, iv 1, iv 3, iv c3] [(.int 32), (.int c3)]) t → oS p e below s₁ (mkF m 0 #[rv a0, .unset, .unset, .unset] []) t := fun t k => S26 t (by
                show oS p e below T25 (mkF m 32 #[rv a0, iv 1, iv 2, iv c2] [(.int (own_bl c2))]) _
                refine XS.ifNo X25.here hx rfl (hb hby d4_32) rfl (XT.i0_ne_f hc32_27) ?_
                refine XT.iconstV X25.here hx rfl (1 : Int32) (hb hby d4_35) (by decide) ?_
                refine XS.goto X25.here hx rfl (pc0 := 36) (pc' := 40) rfl (hb hby d4_36) (by decide) (by decide) ?_
                refine XS.istoreN X25.here hx rfl (hb hby d4_40) rfl (l' := #[rv a0, iv 1, iv 2, iv c2]) rfl ?_
                refine XT.iincV X25.here hx rfl (1 : Int32) (hb hby d4_41) (by decide) rfl (l' := #[rv a0, iv 1, iv 3, iv c2]) rfl ?_
                refine XS.goto X25.here hx rfl (pc0 := 44) (pc' := 4) rfl (hb hby d4_44) (by decide) (by decide) ?_
                refine XS.iloadN X25.here hx rfl (hb hby d4_4) rfl ?_
                refine XS.aloadN X25.here hx rfl (hb hby d4_5) rfl rfl ?_
                refine st28 _ ?_
                refine XS.icmpNo X28.here hx rfl (hb hby d4_9) rfl (XT.ii_ge_f (by decide)) ?_
                refine XS.iloadN X28.here hx rfl (hb hby d4_12) rfl ?_
                refine XS.ifNo X28.here hx rfl (hb hby d4_13) rfl (XT.i0_eq_f (by decide)) ?_
                refine XS.aloadN X28.here hx rfl (hb hby d4_16) rfl rfl ?_
                refine XS.iloadN X28.here hx rfl (hb hby d4_17) rfl ?_
                refine st29 _ ?_
                refine XS.istoreN X29.here hx rfl (hb hby d4_21) rfl (l' := #[rv a0, iv 1, iv 3, iv c3]) rfl ?_
                refine XS.iloadN X29.here hx rfl (hb hby d4_22) rfl ?_
                refine XT.bipushV X29.here hx rfl (32 : Int32) (hb hby d4_23) (by decide) ?_
                exact k)
              by_cases hc25_31 : c3 = (32 : Int32)
              · obtain ⟨_, T32, Lc32, X32, hQ32, st32⟩ := own_virtual (W := 1) (y := mN5) (z := mN5) X29 hx hZ hown (hw _ (own_w 27 rfl)) (hw _ (own_w 28 rfl)) (notFace_of_selects (args := #[]) (mvT hZ (hw _ (own_w 30 rfl)))) (hw _ (own_w 30 rfl)) (hw _ (own_w 29 rfl)) (hw _ (own_w 31 rfl)) (hw _ (own_w 4 rfl)) (by decide) (rmLenJ_4 l Z av0 hw [] a0 wC fm c0 c1 c2 c3 h0 n0 Z0 hE hSt hS hw0) (by decide) (by decide) hE (g := (mkF m 6 #[rv a0, iv 0, iv 4, iv c3] [(.ref a0), (.int 4)])) rfl (by rw [hml]; rfl) (argsL := []) (rest := [(.int 4)]) (lenOf pd__I rfl) rfl (hb hby d4_6) rfl e29 (by decide : 0 + 0 ≤ _) (by decide : 0 + 0 ≤ _)
                obtain ⟨rfl, N32q, hh32⟩ := hQ32
                have N32 := Fr.app N29 N32q
                have e32 : T32.heap = h0 := hh32
                have S33 : ∀ t, oS p e below T32 (mkF m 48 #[rv a0, iv 0, iv 4, iv c3] [(.int 0)]) t → oS p e below s₁ (mkF m 0 #[rv a0, .unset, .unset, .unset] []) t := fun t k => S30 t (by
                  show oS p e below T29 (mkF m 25 #[rv a0, iv 1, iv 3, iv c3] [(.int 32), (.int c3)]) _
                  refine XS.icmpYes X29.here hx rfl (pc0 := 25) (pc' := 39) rfl (hb hby d4_25) rfl (XT.ii_eq_t hc25_31) (by decide) (by decide) ?_
                  show oS p e below T29 (mkF m 39 #[rv a0, iv 1, iv 3, iv c3] []) _
                  refine XT.iconstV X29.here hx rfl (0 : Int32) (hb hby d4_39) (by decide) ?_
                  refine XS.istoreN X29.here hx rfl (hb hby d4_40) rfl (l' := #[rv a0, iv 0, iv 3, iv c3]) rfl ?_
                  refine XT.iincV X29.here hx rfl (1 : Int32) (hb hby d4_41) (by decide) rfl (l' := #[rv a0, iv 0, iv 4, iv c3]) rfl ?_
                  refine XS.goto X29.here hx rfl (pc0 := 44) (pc' := 4) rfl (hb hby d4_44) (by decide) (by decide) ?_
                  refine XS.iloadN X29.here hx rfl (hb hby d4_4) rfl ?_
                  refine XS.aloadN X29.here hx rfl (hb hby d4_5) rfl rfl ?_
                  refine st32 _ ?_
                  refine XS.icmpYes X32.here hx rfl (pc0 := 9) (pc' := 47) rfl (hb hby d4_9) rfl (XT.ii_ge_t (by decide)) (by decide) (by decide) ?_
                  refine XS.iloadN X32.here hx rfl (hb hby d4_47) rfl ?_
                  exact k)
                obtain ⟨fs, hr, hrun, hended, hW, hsame⟩ := X32.leave (v := some (.int 0)) (fun h => by rw [Bd.returns] at h; cases h)
                refine ⟨_, _, pre0 _ (S33 _ ?_), hrun, hended, _, _, rfl, ?_, ⟨_, rfl⟩, hW, hsame.mono (by decide) (by decide)⟩
                · exact retN X32 hx (t := .boolean) Bd.returns (by simp) (hb hby d4_48) hr
                · show QrmNs_4 Z a0 wC fm c0 c1 c2 c3 h0 n0 _ T32.heap _
                  rw [e32]
                  exact ⟨by simp [own_ns, hc25_4, hc32_9, hc25_13, hc32_18, hc25_22, hc32_27, hc25_31], N32, rfl⟩
              · obtain ⟨_, T34, Lc34, X34, hQ34, st34⟩ := own_callS (W := 0) (y := mN0) X29 hx hZ hown (hw _ (own_w 74 rfl)) (hw _ (own_w 75 rfl)) (hw _ (own_w 76 rfl)) (hw _ (own_w 77 rfl)) (by decide) (rmB l Z av0 hw [] c3 h0 n0 Z0 ) (by decide) (by decide) (g := (mkF m 29 #[rv a0, iv 1, iv 3, iv c3] [(.int c3)])) rfl (by rw [hml]; rfl) (argsL := [(.int c3)]) (rest := []) (lenOf pd__C_Z rfl) rfl (hb hby d4_29) rfl e29 (by decide : 0 + 0 ≤ _) (by decide : 0 + 0 ≤ _)
                obtain ⟨rfl, N34q, hh34⟩ := hQ34
                have N34 := Fr.app N29 N34q
                have e34 : T34.heap = h0 := hh34
                have S35 : ∀ t, oS p e below T34 (mkF m 32 #[rv a0, iv 1, iv 3, iv c3] [(.int (own_bl c3))]) t → oS p e below s₁ (mkF m 0 #[rv a0, .unset, .unset, .unset] []) t := fun t k => S30 t (by
                  show oS p e below T29 (mkF m 25 #[rv a0, iv 1, iv 3, iv c3] [(.int 32), (.int c3)]) _
                  refine XS.icmpNo X29.here hx rfl (hb hby d4_25) rfl (XT.ii_eq_f hc25_31) ?_
                  show oS p e below T29 (mkF m 28 #[rv a0, iv 1, iv 3, iv c3] []) _
                  refine XS.iloadN X29.here hx rfl (hb hby d4_28) rfl ?_
                  refine st34 _ ?_
                  exact k)
                by_cases hc32_36 : (own_bl c3) = (0 : Int32)
                · obtain ⟨_, T37, Lc37, X37, hQ37, st37⟩ := own_virtual (W := 1) (y := mN5) (z := mN5) X34 hx hZ hown (hw _ (own_w 27 rfl)) (hw _ (own_w 28 rfl)) (notFace_of_selects (args := #[]) (mvT hZ (hw _ (own_w 30 rfl)))) (hw _ (own_w 30 rfl)) (hw _ (own_w 29 rfl)) (hw _ (own_w 31 rfl)) (hw _ (own_w 4 rfl)) (by decide) (rmLenJ_4 l Z av0 hw [] a0 wC fm c0 c1 c2 c3 h0 n0 Z0 hE hSt hS hw0) (by decide) (by decide) hE (g := (mkF m 6 #[rv a0, iv 1, iv 4, iv c3] [(.ref a0), (.int 4)])) rfl (by rw [hml]; rfl) (argsL := []) (rest := [(.int 4)]) (lenOf pd__I rfl) rfl (hb hby d4_6) rfl e34 (by decide : 0 + 0 ≤ _) (by decide : 0 + 0 ≤ _)
                  obtain ⟨rfl, N37q, hh37⟩ := hQ37
                  have N37 := Fr.app N34 N37q
                  have e37 : T37.heap = h0 := hh37
                  have S38 : ∀ t, oS p e below T37 (mkF m 48 #[rv a0, iv 1, iv 4, iv c3] [(.int 1)]) t → oS p e below s₁ (mkF m 0 #[rv a0, .unset, .unset, .unset] []) t := fun t k => S35 t (by
                    show oS p e below T34 (mkF m 32 #[rv a0, iv 1, iv 3, iv c3] [(.int (own_bl c3))]) _
                    refine XS.ifNo X34.here hx rfl (hb hby d4_32) rfl (XT.i0_ne_f hc32_36) ?_
                    refine XT.iconstV X34.here hx rfl (1 : Int32) (hb hby d4_35) (by decide) ?_
                    refine XS.goto X34.here hx rfl (pc0 := 36) (pc' := 40) rfl (hb hby d4_36) (by decide) (by decide) ?_
                    refine XS.istoreN X34.here hx rfl (hb hby d4_40) rfl (l' := #[rv a0, iv 1, iv 3, iv c3]) rfl ?_
                    refine XT.iincV X34.here hx rfl (1 : Int32) (hb hby d4_41) (by decide) rfl (l' := #[rv a0, iv 1, iv 4, iv c3]) rfl ?_
                    refine XS.goto X34.here hx rfl (pc0 := 44) (pc' := 4) rfl (hb hby d4_44) (by decide) (by decide) ?_
                    refine XS.iloadN X34.here hx rfl (hb hby d4_4) rfl ?_
                    refine XS.aloadN X34.here hx rfl (hb hby d4_5) rfl rfl ?_
                    refine st37 _ ?_
                    refine XS.icmpYes X37.here hx rfl (pc0 := 9) (pc' := 47) rfl (hb hby d4_9) rfl (XT.ii_ge_t (by decide)) (by decide) (by decide) ?_
                    refine XS.iloadN X37.here hx rfl (hb hby d4_47) rfl ?_
                    exact k)
                  obtain ⟨fs, hr, hrun, hended, hW, hsame⟩ := X37.leave (v := some (.int 1)) (fun h => by rw [Bd.returns] at h; cases h)
                  refine ⟨_, _, pre0 _ (S38 _ ?_), hrun, hended, _, _, rfl, ?_, ⟨_, rfl⟩, hW, hsame.mono (by decide) (by decide)⟩
                  · exact retN X37 hx (t := .boolean) Bd.returns (by simp) (hb hby d4_48) hr
                  · show QrmNs_4 Z a0 wC fm c0 c1 c2 c3 h0 n0 _ T37.heap _
                    rw [e37]
                    exact ⟨by simp [own_ns, hc25_4, hc32_9, hc25_13, hc32_18, hc25_22, hc32_27, hc25_31, hc32_36], N37, rfl⟩
                · obtain ⟨_, T39, Lc39, X39, hQ39, st39⟩ := own_virtual (W := 1) (y := mN5) (z := mN5) X34 hx hZ hown (hw _ (own_w 27 rfl)) (hw _ (own_w 28 rfl)) (notFace_of_selects (args := #[]) (mvT hZ (hw _ (own_w 30 rfl)))) (hw _ (own_w 30 rfl)) (hw _ (own_w 29 rfl)) (hw _ (own_w 31 rfl)) (hw _ (own_w 4 rfl)) (by decide) (rmLenJ_4 l Z av0 hw [] a0 wC fm c0 c1 c2 c3 h0 n0 Z0 hE hSt hS hw0) (by decide) (by decide) hE (g := (mkF m 6 #[rv a0, iv 0, iv 4, iv c3] [(.ref a0), (.int 4)])) rfl (by rw [hml]; rfl) (argsL := []) (rest := [(.int 4)]) (lenOf pd__I rfl) rfl (hb hby d4_6) rfl e34 (by decide : 0 + 0 ≤ _) (by decide : 0 + 0 ≤ _)
                  obtain ⟨rfl, N39q, hh39⟩ := hQ39
                  have N39 := Fr.app N34 N39q
                  have e39 : T39.heap = h0 := hh39
                  have S40 : ∀ t, oS p e below T39 (mkF m 48 #[rv a0, iv 0, iv 4, iv c3] [(.int 0)]) t → oS p e below s₁ (mkF m 0 #[rv a0, .unset, .unset, .unset] []) t := fun t k => S35 t (by
                    show oS p e below T34 (mkF m 32 #[rv a0, iv 1, iv 3, iv c3] [(.int (own_bl c3))]) _
                    refine XS.ifYes X34.here hx rfl (pc0 := 32) (pc' := 39) rfl (hb hby d4_32) rfl (XT.i0_ne_t hc32_36) (by decide) (by decide) ?_
                    refine XT.iconstV X34.here hx rfl (0 : Int32) (hb hby d4_39) (by decide) ?_
                    refine XS.istoreN X34.here hx rfl (hb hby d4_40) rfl (l' := #[rv a0, iv 0, iv 3, iv c3]) rfl ?_
                    refine XT.iincV X34.here hx rfl (1 : Int32) (hb hby d4_41) (by decide) rfl (l' := #[rv a0, iv 0, iv 4, iv c3]) rfl ?_
                    refine XS.goto X34.here hx rfl (pc0 := 44) (pc' := 4) rfl (hb hby d4_44) (by decide) (by decide) ?_
                    refine XS.iloadN X34.here hx rfl (hb hby d4_4) rfl ?_
                    refine XS.aloadN X34.here hx rfl (hb hby d4_5) rfl rfl ?_
                    refine st39 _ ?_
                    refine XS.icmpYes X39.here hx rfl (pc0 := 9) (pc' := 47) rfl (hb hby d4_9) rfl (XT.ii_ge_t (by decide)) (by decide) (by decide) ?_
                    refine XS.iloadN X39.here hx rfl (hb hby d4_47) rfl ?_
                    exact k)
                  obtain ⟨fs, hr, hrun, hended, hW, hsame⟩ := X39.leave (v := some (.int 0)) (fun h => by rw [Bd.returns] at h; cases h)
                  refine ⟨_, _, pre0 _ (S40 _ ?_), hrun, hended, _, _, rfl, ?_, ⟨_, rfl⟩, hW, hsame.mono (by decide) (by decide)⟩
                  · exact retN X39 hx (t := .boolean) Bd.returns (by simp) (hb hby d4_48) hr
                  · show QrmNs_4 Z a0 wC fm c0 c1 c2 c3 h0 n0 _ T39.heap _
                    rw [e39]
                    exact ⟨by simp [own_ns, hc25_4, hc32_9, hc25_13, hc32_18, hc25_22, hc32_27, hc25_31, hc32_36], N39, rfl⟩
            · obtain ⟨_, T41, Lc41, X41, hQ41, st41⟩ := own_virtual (W := 1) (y := mN5) (z := mN5) X25 hx hZ hown (hw _ (own_w 27 rfl)) (hw _ (own_w 28 rfl)) (notFace_of_selects (args := #[]) (mvT hZ (hw _ (own_w 30 rfl)))) (hw _ (own_w 30 rfl)) (hw _ (own_w 29 rfl)) (hw _ (own_w 31 rfl)) (hw _ (own_w 4 rfl)) (by decide) (rmLenJ_4 l Z av0 hw [] a0 wC fm c0 c1 c2 c3 h0 n0 Z0 hE hSt hS hw0) (by decide) (by decide) hE (g := (mkF m 6 #[rv a0, iv 0, iv 3, iv c2] [(.ref a0), (.int 3)])) rfl (by rw [hml]; rfl) (argsL := []) (rest := [(.int 3)]) (lenOf pd__I rfl) rfl (hb hby d4_6) rfl e25 (by decide : 0 + 0 ≤ _) (by decide : 0 + 0 ≤ _)
              obtain ⟨rfl, N41q, hh41⟩ := hQ41
              have N41 := Fr.app N25 N41q
              have e41 : T41.heap = h0 := hh41
              have S42 : ∀ t, oS p e below T41 (mkF m 48 #[rv a0, iv 0, iv 3, iv c2] [(.int 0)]) t → oS p e below s₁ (mkF m 0 #[rv a0, .unset, .unset, .unset] []) t := fun t k => S26 t (by
                show oS p e below T25 (mkF m 32 #[rv a0, iv 1, iv 2, iv c2] [(.int (own_bl c2))]) _
                refine XS.ifYes X25.here hx rfl (pc0 := 32) (pc' := 39) rfl (hb hby d4_32) rfl (XT.i0_ne_t hc32_27) (by decide) (by decide) ?_
                refine XT.iconstV X25.here hx rfl (0 : Int32) (hb hby d4_39) (by decide) ?_
                refine XS.istoreN X25.here hx rfl (hb hby d4_40) rfl (l' := #[rv a0, iv 0, iv 2, iv c2]) rfl ?_
                refine XT.iincV X25.here hx rfl (1 : Int32) (hb hby d4_41) (by decide) rfl (l' := #[rv a0, iv 0, iv 3, iv c2]) rfl ?_
                refine XS.goto X25.here hx rfl (pc0 := 44) (pc' := 4) rfl (hb hby d4_44) (by decide) (by decide) ?_
                refine XS.iloadN X25.here hx rfl (hb hby d4_4) rfl ?_
                refine XS.aloadN X25.here hx rfl (hb hby d4_5) rfl rfl ?_
                refine st41 _ ?_
                refine XS.icmpNo X41.here hx rfl (hb hby d4_9) rfl (XT.ii_ge_f (by decide)) ?_
                refine XS.iloadN X41.here hx rfl (hb hby d4_12) rfl ?_
                refine XS.ifYes X41.here hx rfl (pc0 := 13) (pc' := 47) rfl (hb hby d4_13) rfl (XT.i0_eq_t (by decide)) (by decide) (by decide) ?_
                refine XS.iloadN X41.here hx rfl (hb hby d4_47) rfl ?_
                exact k)
              obtain ⟨fs, hr, hrun, hended, hW, hsame⟩ := X41.leave (v := some (.int 0)) (fun h => by rw [Bd.returns] at h; cases h)
              refine ⟨_, _, pre0 _ (S42 _ ?_), hrun, hended, _, _, rfl, ?_, ⟨_, rfl⟩, hW, hsame.mono (by decide) (by decide)⟩
              · exact retN X41 hx (t := .boolean) Bd.returns (by simp) (hb hby d4_48) hr
              · show QrmNs_4 Z a0 wC fm c0 c1 c2 c3 h0 n0 _ T41.heap _
                rw [e41]
                exact ⟨by simp [own_ns, hc25_4, hc32_9, hc25_13, hc32_18, hc25_22, hc32_27], N41, rfl⟩
        · obtain ⟨_, T43, Lc43, X43, hQ43, st43⟩ := own_virtual (W := 1) (y := mN5) (z := mN5) X16 hx hZ hown (hw _ (own_w 27 rfl)) (hw _ (own_w 28 rfl)) (notFace_of_selects (args := #[]) (mvT hZ (hw _ (own_w 30 rfl)))) (hw _ (own_w 30 rfl)) (hw _ (own_w 29 rfl)) (hw _ (own_w 31 rfl)) (hw _ (own_w 4 rfl)) (by decide) (rmLenJ_4 l Z av0 hw [] a0 wC fm c0 c1 c2 c3 h0 n0 Z0 hE hSt hS hw0) (by decide) (by decide) hE (g := (mkF m 6 #[rv a0, iv 0, iv 2, iv c1] [(.ref a0), (.int 2)])) rfl (by rw [hml]; rfl) (argsL := []) (rest := [(.int 2)]) (lenOf pd__I rfl) rfl (hb hby d4_6) rfl e16 (by decide : 0 + 0 ≤ _) (by decide : 0 + 0 ≤ _)
          obtain ⟨rfl, N43q, hh43⟩ := hQ43
          have N43 := Fr.app N16 N43q
          have e43 : T43.heap = h0 := hh43
          have S44 : ∀ t, oS p e below T43 (mkF m 48 #[rv a0, iv 0, iv 2, iv c1] [(.int 0)]) t → oS p e below s₁ (mkF m 0 #[rv a0, .unset, .unset, .unset] []) t := fun t k => S17 t (by
            show oS p e below T16 (mkF m 32 #[rv a0, iv 1, iv 1, iv c1] [(.int (own_bl c1))]) _
            refine XS.ifYes X16.here hx rfl (pc0 := 32) (pc' := 39) rfl (hb hby d4_32) rfl (XT.i0_ne_t hc32_18) (by decide) (by decide) ?_
            refine XT.iconstV X16.here hx rfl (0 : Int32) (hb hby d4_39) (by decide) ?_
            refine XS.istoreN X16.here hx rfl (hb hby d4_40) rfl (l' := #[rv a0, iv 0, iv 1, iv c1]) rfl ?_
            refine XT.iincV X16.here hx rfl (1 : Int32) (hb hby d4_41) (by decide) rfl (l' := #[rv a0, iv 0, iv 2, iv c1]) rfl ?_
            refine XS.goto X16.here hx rfl (pc0 := 44) (pc' := 4) rfl (hb hby d4_44) (by decide) (by decide) ?_
            refine XS.iloadN X16.here hx rfl (hb hby d4_4) rfl ?_
            refine XS.aloadN X16.here hx rfl (hb hby d4_5) rfl rfl ?_
            refine st43 _ ?_
            refine XS.icmpNo X43.here hx rfl (hb hby d4_9) rfl (XT.ii_ge_f (by decide)) ?_
            refine XS.iloadN X43.here hx rfl (hb hby d4_12) rfl ?_
            refine XS.ifYes X43.here hx rfl (pc0 := 13) (pc' := 47) rfl (hb hby d4_13) rfl (XT.i0_eq_t (by decide)) (by decide) (by decide) ?_
            refine XS.iloadN X43.here hx rfl (hb hby d4_47) rfl ?_
            exact k)
          obtain ⟨fs, hr, hrun, hended, hW, hsame⟩ := X43.leave (v := some (.int 0)) (fun h => by rw [Bd.returns] at h; cases h)
          refine ⟨_, _, pre0 _ (S44 _ ?_), hrun, hended, _, _, rfl, ?_, ⟨_, rfl⟩, hW, hsame.mono (by decide) (by decide)⟩
          · exact retN X43 hx (t := .boolean) Bd.returns (by simp) (hb hby d4_48) hr
          · show QrmNs_4 Z a0 wC fm c0 c1 c2 c3 h0 n0 _ T43.heap _
            rw [e43]
            exact ⟨by simp [own_ns, hc25_4, hc32_9, hc25_13, hc32_18], N43, rfl⟩
    · obtain ⟨_, T45, Lc45, X45, hQ45, st45⟩ := own_virtual (W := 1) (y := mN5) (z := mN5) X7 hx hZ hown (hw _ (own_w 27 rfl)) (hw _ (own_w 28 rfl)) (notFace_of_selects (args := #[]) (mvT hZ (hw _ (own_w 30 rfl)))) (hw _ (own_w 30 rfl)) (hw _ (own_w 29 rfl)) (hw _ (own_w 31 rfl)) (hw _ (own_w 4 rfl)) (by decide) (rmLenJ_4 l Z av0 hw [] a0 wC fm c0 c1 c2 c3 h0 n0 Z0 hE hSt hS hw0) (by decide) (by decide) hE (g := (mkF m 6 #[rv a0, iv 0, iv 1, iv c0] [(.ref a0), (.int 1)])) rfl (by rw [hml]; rfl) (argsL := []) (rest := [(.int 1)]) (lenOf pd__I rfl) rfl (hb hby d4_6) rfl e7 (by decide : 0 + 0 ≤ _) (by decide : 0 + 0 ≤ _)
      obtain ⟨rfl, N45q, hh45⟩ := hQ45
      have N45 := Fr.app N7 N45q
      have e45 : T45.heap = h0 := hh45
      have S46 : ∀ t, oS p e below T45 (mkF m 48 #[rv a0, iv 0, iv 1, iv c0] [(.int 0)]) t → oS p e below s₁ (mkF m 0 #[rv a0, .unset, .unset, .unset] []) t := fun t k => S8 t (by
        show oS p e below T7 (mkF m 32 #[rv a0, iv 1, iv 0, iv c0] [(.int (own_bl c0))]) _
        refine XS.ifYes X7.here hx rfl (pc0 := 32) (pc' := 39) rfl (hb hby d4_32) rfl (XT.i0_ne_t hc32_9) (by decide) (by decide) ?_
        show oS p e below T7 (mkF m 39 #[rv a0, iv 1, iv 0, iv c0] []) _
        refine XT.iconstV X7.here hx rfl (0 : Int32) (hb hby d4_39) (by decide) ?_
        refine XS.istoreN X7.here hx rfl (hb hby d4_40) rfl (l' := #[rv a0, iv 0, iv 0, iv c0]) rfl ?_
        refine XT.iincV X7.here hx rfl (1 : Int32) (hb hby d4_41) (by decide) rfl (l' := #[rv a0, iv 0, iv 1, iv c0]) rfl ?_
        refine XS.goto X7.here hx rfl (pc0 := 44) (pc' := 4) rfl (hb hby d4_44) (by decide) (by decide) ?_
        refine XS.iloadN X7.here hx rfl (hb hby d4_4) rfl ?_
        refine XS.aloadN X7.here hx rfl (hb hby d4_5) rfl rfl ?_
        refine st45 _ ?_
        refine XS.icmpNo X45.here hx rfl (hb hby d4_9) rfl (XT.ii_ge_f (by decide)) ?_
        refine XS.iloadN X45.here hx rfl (hb hby d4_12) rfl ?_
        refine XS.ifYes X45.here hx rfl (pc0 := 13) (pc' := 47) rfl (hb hby d4_13) rfl (XT.i0_eq_t (by decide)) (by decide) (by decide) ?_
        refine XS.iloadN X45.here hx rfl (hb hby d4_47) rfl ?_
        exact k)
      obtain ⟨fs, hr, hrun, hended, hW, hsame⟩ := X45.leave (v := some (.int 0)) (fun h => by rw [Bd.returns] at h; cases h)
      refine ⟨_, _, pre0 _ (S46 _ ?_), hrun, hended, _, _, rfl, ?_, ⟨_, rfl⟩, hW, hsame.mono (by decide) (by decide)⟩
      · exact retN X45 hx (t := .boolean) Bd.returns (by simp) (hb hby d4_48) hr
      · show QrmNs_4 Z a0 wC fm c0 c1 c2 c3 h0 n0 _ T45.heap _
        rw [e45]
        exact ⟨by simp [own_ns, hc25_4, hc32_9], N45, rfl⟩
def QrmCp5_4_0 (Z : State) (a0 : Addr) (a2 : Addr) (ka : ClassId) (kb : ClassId) (c0 : Int32) (c1 : Int32) (c2 : Int32) (c3 : Int32) (h0 : Heap) (n0 : Nat) (v : Option Value) (h : Heap) (L : List Loc) : Prop := v = some (.int (0 : Int32)) ∧ Fr n0 L ∧ Keep h0 h [a2] ∧ Arv Z h a2 kb .byte (4 : Int32) [(.int (0 : Int32)), (.int (0 : Int32)), (.int (0 : Int32)), (.int (0 : Int32))] (.int (0 : Int32))
set_option maxRecDepth 65536 in
set_option maxHeartbeats 40000000 in
theorem rmCp5_4_0 (l : Launch) (Z : State) (av0 : Array Value) (hw : ∀ d ∈ tables_1, d.before av0 Z = true) (ws : List Jvm.Cond) (a0 : Addr) (a2 : Addr) (ka : ClassId) (kb : ClassId) (c0 : Int32) (c1 : Int32) (c2 : Int32) (c3 : Int32) (h0 : Heap) (n0 : Nat) (Z0 : n0 ≤ h0.size) (hA : Arv Z h0 a0 ka .char (4 : Int32) [(.int c0), (.int c1), (.int c2), (.int c3)] (.int (0 : Int32))) (hB : Arv Z h0 a2 kb .byte (4 : Int32) [(.int (0 : Int32)), (.int (0 : Int32)), (.int (0 : Int32)), (.int (0 : Int32))] (.int (0 : Int32))) (hne : a0 ≠ a2) (hge : n0 ≤ a2) (hbg : (255 : Int32) < c0) :
    own_Met l mN16 jdk_52_method_21_code 7 (some .int) ws ({ frames := 0, cells := 0, slots := 0, locals := 0 } : Room) #[(.ref a0), (.int 0), (.ref a2), (.int 0), (.int 4)] Z h0 (QrmCp5_4_0 Z a0 a2 ka kb c0 c1 c2 c3 h0 n0) := by
  refine MetFree.of_bodySF (plainFor_of_name pn_StringUTF16) hisR ?_
  intro p e s m args below meth c s₁ Bd hml0 hP hK
  obtain ⟨rfl, hZ, hh⟩ := hP
  have hml : c.maxLocals = 7 := hml0
  obtain ⟨hx, hby, hown, hnm, X0, e0⟩ := own_start Bd hml0 hh
  have N0 := Fr.nil n0
  have pre0 : ∀ t, oS p e below s₁ (mkF m 0 #[rv a0, iv 0, rv a2, iv 0, iv 4, .unset, .unset] []) t → Steps p.tables e below (s₁.setTop (entryFrame m #[(.ref a0), (.int 0), (.ref a2), (.int 0), (.int 4)] 7)) t := fun t k => castTop (by first | (simp [entryFrame, mkF, argsToLocals, Value.category]; done) | rfl) k
  obtain ⟨cl1, Ar1, qk1, Sz1, Ng1, Hs1, Gs1⟩ := id hA
  have hin1 : ¬ ((0 : Int32) < 0 ∨ cl1.slots.size ≤ ((0 : Int32)).toNatClampNeg) := inb_of Sz1 ⟨by decide, by decide⟩
  have hat1 : cl1.slots[((0 : Int32)).toNatClampNeg]? = some (.int c0) := Hs1.at hin1 rfl
  have S2 : ∀ t, oS p e below s₁ (mkF m 25 #[rv a0, iv 0, rv a2, iv 0, iv 4, iv 0, iv c0] [(.int 0)]) t → oS p e below s₁ (mkF m 0 #[rv a0, iv 0, rv a2, iv 0, iv 4, .unset, .unset] []) t := fun t k => id (by
    show oS p e below s₁ (mkF m 0 #[rv a0, iv 0, rv a2, iv 0, iv 4, .unset, .unset] []) _
    refine XT.iconstV X0.here hx rfl (0 : Int32) (hb hby d8_0) (by decide) ?_
    refine XS.istore X0.here hx rfl (hb hby d8_1) rfl (l' := #[rv a0, iv 0, rv a2, iv 0, iv 4, iv 0, .unset]) rfl ?_
    refine XS.iload X0.here hx rfl (hb hby d8_3) rfl ?_
    refine XS.iload X0.here hx rfl (hb hby d8_5) rfl ?_
    refine XS.icmpNo X0.here hx rfl (hb hby d8_7) rfl (XT.ii_ge_f (by decide)) ?_
    refine XS.aloadN X0.here hx rfl (hb hby d8_10) rfl rfl ?_
    refine XS.iloadN X0.here hx rfl (hb hby d8_11) rfl ?_
    refine X0.caload hx (j := (0 : Int32)) (v := (.int c0)) (by rw [e0]; exact Ar1.1) (State.isArrayOf_alike hZ.alike Ar1.2.1) Ar1.2.2 hin1 hat1 (g := (mkF m 12 #[rv a0, iv 0, rv a2, iv 0, iv 4, iv 0, .unset] [(.int 0), (.ref a0)])) rfl rfl (hb hby d8_12) _ ?_
    refine XS.istore X0.here hx rfl (hb hby d8_13) rfl (l' := #[rv a0, iv 0, rv a2, iv 0, iv 4, iv 0, iv c0]) rfl ?_
    refine XS.iload X0.here hx rfl (hb hby d8_15) rfl ?_
    refine XT.sipushV X0.here hx rfl (255 : Int32) (hb hby d8_17) (by decide) ?_
    refine XS.icmpNo X0.here hx rfl (hb hby d8_20) rfl (XT.ii_le_f hbg) ?_
    refine XS.iload X0.here hx rfl (hb hby d8_23) rfl ?_
    exact k)
  obtain ⟨fs, hr, hrun, hended, hW, hsame⟩ := X0.leave (v := some (.int 0)) (fun h => by rw [Bd.returns] at h; cases h)
  refine ⟨_, _, pre0 _ (S2 _ ?_), hrun, hended, _, _, rfl, ?_, ⟨_, rfl⟩, hW, hsame.mono (by decide) (by decide)⟩
  · exact retI X0 hx Bd.returns (hb hby d8_25) hr
  · show QrmCp5_4_0 Z a0 a2 ka kb c0 c1 c2 c3 h0 n0 _ s₁.heap _
    rw [e0]
    exact ⟨congrArg (fun z => some (Value.int z)) (by decide), N0, (Keep.refl _ _), hB⟩
def QrmNbl_4 (Z : State)  (h0 : Heap) (n0 : Nat) (v : Option Value) (h : Heap) (L : List Loc) : Prop := v = some (.int (8 : Int32)) ∧ Fr n0 L ∧ h = h0
set_option maxRecDepth 65536 in
set_option maxHeartbeats 40000000 in
theorem rmNbl_4 (l : Launch) (Z : State) (av0 : Array Value) (hw : ∀ d ∈ tables_1, d.before av0 Z = true) (ws : List Jvm.Cond)  (h0 : Heap) (n0 : Nat) (Z0 : n0 ≤ h0.size)  :
    own_Met l mN17 jdk_52_method_3_code 1 (some .int) ws ({ frames := 0, cells := 0, slots := 0, locals := 0 } : Room) #[(.int 4)] Z h0 (QrmNbl_4 Z  h0 n0) := by
  refine MetFree.of_bodySF (plainFor_of_name pn_StringUTF16) hisR ?_
  intro p e s m args below meth c s₁ Bd hml0 hP hK
  obtain ⟨rfl, hZ, hh⟩ := hP
  have hml : c.maxLocals = 1 := hml0
  obtain ⟨hx, hby, hown, hnm, X0, e0⟩ := own_start Bd hml0 hh
  have N0 := Fr.nil n0
  have pre0 : ∀ t, oS p e below s₁ (mkF m 0 #[iv 4] []) t → Steps p.tables e below (s₁.setTop (entryFrame m #[(.int 4)] 1)) t := fun t k => castTop (by first | (simp [entryFrame, mkF, argsToLocals, Value.category]; done) | rfl) k
  have S1 : ∀ t, oS p e below s₁ (mkF m 58 #[iv 4] [(.int 8)]) t → oS p e below s₁ (mkF m 0 #[iv 4] []) t := fun t k => id (by
    show oS p e below s₁ (mkF m 0 #[iv 4] []) _
    refine XS.iloadN X0.here hx rfl (hb hby d19_0) rfl ?_
    refine XS.ifYes X0.here hx rfl (pc0 := 1) (pc' := 12) rfl (hb hby d19_1) rfl (XT.i0_ge_t (by decide)) (by decide) (by decide) ?_
    refine XS.iloadN X0.here hx rfl (hb hby d19_12) rfl ?_
    refine X0.ldcI hx hown (mvT hZ (hw _ (own_w 87 rfl))) rfl (hb hby d19_13) ?_
    refine XS.icmpYes X0.here hx rfl (pc0 := 15) (pc' := 55) rfl (hb hby d19_15) rfl (XT.ii_lt_t (by decide)) (by decide) (by decide) ?_
    refine XS.iloadN X0.here hx rfl (hb hby d19_55) rfl ?_
    refine XT.iconstV X0.here hx rfl (1 : Int32) (hb hby d19_56) (by decide) ?_
    refine XT.ishl X0.here hx rfl (hb hby d19_57) rfl ?_
    exact k)
  obtain ⟨fs, hr, hrun, hended, hW, hsame⟩ := X0.leave (v := some (.int 8)) (fun h => by rw [Bd.returns] at h; cases h)
  refine ⟨_, _, pre0 _ (S1 _ ?_), hrun, hended, _, _, rfl, ?_, ⟨_, rfl⟩, hW, hsame.mono (by decide) (by decide)⟩
  · exact retI X0 hx Bd.returns (hb hby d19_58) hr
  · show QrmNbl_4 Z  h0 n0 _ s₁.heap _
    rw [e0]
    exact ⟨congrArg (fun z => some (Value.int z)) (by decide), N0, rfl⟩
def QrmNbf_4 (Z : State)  (h0 : Heap) (n0 : Nat) (v : Option Value) (h : Heap) (L : List Loc) : Prop := ∃ (b : Addr) (k : ClassId), v = some (.ref b) ∧ Fr n0 L ∧ h0.size ≤ b ∧ Keep h0 h [] ∧ Arv Z h b k .byte (8 : Int32) [(.int (0 : Int32)), (.int (0 : Int32)), (.int (0 : Int32)), (.int (0 : Int32)), (.int (0 : Int32)), (.int (0 : Int32)), (.int (0 : Int32)), (.int (0 : Int32))] (.int (0 : Int32))
set_option maxRecDepth 65536 in
set_option maxHeartbeats 40000000 in
theorem rmNbf_4 (l : Launch) (Z : State) (av0 : Array Value) (hw : ∀ d ∈ tables_1, d.before av0 Z = true) (ws : List Jvm.Cond)  (h0 : Heap) (n0 : Nat) (Z0 : n0 ≤ h0.size)  :
    own_Met l mN18 jdk_52_method_2_code 1 (some (.array .byte)) ws ({ frames := 1, cells := 1, slots := 8, locals := 12 } : Room) #[(.int 4)] Z h0 (QrmNbf_4 Z  h0 n0) := by
  refine MetFree.of_bodySF (plainFor_of_name pn_StringUTF16) hisR ?_
  intro p e s m args below meth c s₁ Bd hml0 hP hK
  obtain ⟨rfl, hZ, hh⟩ := hP
  have hml : c.maxLocals = 1 := hml0
  obtain ⟨hx, hby, hown, hnm, X0, e0⟩ := own_start Bd hml0 hh
  have N0 := Fr.nil n0
  have pre0 : ∀ t, oS p e below s₁ (mkF m 0 #[iv 4] []) t → Steps p.tables e below (s₁.setTop (entryFrame m #[(.int 4)] 1)) t := fun t k => castTop (by first | (simp [entryFrame, mkF, argsToLocals, Value.category]; done) | rfl) k
  obtain ⟨_, T1, Lc1, X1, hQ1, st1⟩ := own_callS (W := 0) (y := mN17) X0 hx hZ hown (hw _ (own_w 84 rfl)) (hw _ (own_w 85 rfl)) (hw _ (own_w 40 rfl)) (hw _ (own_w 86 rfl)) (by decide) (rmNbl_4 l Z av0 hw []  h0 n0 Z0 ) (by decide) (by decide) (g := (mkF m 1 #[iv 4] [(.int 4)])) rfl (by rw [hml]; rfl) (argsL := [(.int 4)]) (rest := []) (lenOf pd__I_I rfl) rfl (hb hby d18_1) rfl e0 (by decide : 0 + 0 ≤ _) (by decide : 0 + 0 ≤ _)
  obtain ⟨rfl, N1q, hh1⟩ := hQ1
  have N1 := Fr.app N0 N1q
  have e1 : T1.heap = h0 := hh1
  obtain ⟨T2, h2, k2, X2, e2, E2, A2, st2⟩ := newP X1 hx hZ (hw _ (own_w 16 rfl)) e1 (g := (mkF m 4 #[iv 4] [(.int 8)])) rfl (hb hby d18_4) rfl (by decide) (cap := 8) (by decide) (by decide) (by decide) (by decide)
  obtain ⟨b2, g2⟩ : ∃ z, z = h0.size := ⟨_, rfl⟩
  rw [← g2] at A2 st2
  have ge_b2 : n0 ≤ b2 := Nat.le_trans Z0 (Nat.le_of_eq g2.symm)
  have sz_b2 : h0.size ≤ b2 := Nat.le_of_eq g2.symm
  have Z2 : n0 ≤ h2.size := Nat.le_trans Z0 E2.1
  have K2 : Keep h0 h2 [] := (Keep.refl h0 []).ext E2
  have V2 : Arv Z h2 b2 k2 .byte (8 : Int32) [(.int (0 : Int32)), (.int (0 : Int32)), (.int (0 : Int32)), (.int (0 : Int32)), (.int (0 : Int32)), (.int (0 : Int32)), (.int (0 : Int32)), (.int (0 : Int32))] (.int (0 : Int32)) := (Arv.new A2 (by decide)).pad (pad_rep [] (.int (0 : Int32)) 8)
  have S3 : ∀ t, oS p e below T2 (mkF m 6 #[iv 4] [(.ref b2)]) t → oS p e below s₁ (mkF m 0 #[iv 4] []) t := fun t k => id (by
    show oS p e below s₁ (mkF m 0 #[iv 4] []) _
    refine XS.iloadN X0.here hx rfl (hb hby d18_0) rfl ?_
    refine st1 _ ?_
    refine st2 _ ?_
    exact k)
  obtain ⟨fs, hr, hrun, hended, hW, hsame⟩ := X2.leave (v := some (.ref b2)) (fun h => by rw [Bd.returns] at h; cases h)
  refine ⟨_, _, pre0 _ (S3 _ ?_), hrun, hended, _, _, rfl, ?_, ⟨_, rfl⟩, hW, hsame.mono (by decide) (by decide)⟩
  · jvm_step X2.here [X2.here.top, hx, (hb hby d18_6), X2.method', Bd.returns, Value.isRef, FieldType.isReference]
    first | (intro acts; rw [hr _ acts rfl rfl rfl]) | rw [hr _ _ rfl rfl rfl]
    exact Steps.refl _
  · show QrmNbf_4 Z  h0 n0 _ T2.heap _
    rw [e2]
    exact ⟨_, _, rfl, N1, sz_b2, K2, V2⟩
def QrmPut_4_0 (Z : State) (a0 : Addr) (ka : ClassId) (cc : Int32) (h0 : Heap) (n0 : Nat) (v : Option Value) (h : Heap) (L : List Loc) : Prop := v = none ∧ Fr n0 L ∧ Keep h0 h [a0] ∧ Arv Z h a0 ka .byte (8 : Int32) [(.int (own_lo cc)), (.int (own_hi cc)), (.int (0 : Int32)), (.int (0 : Int32)), (.int (0 : Int32)), (.int (0 : Int32)), (.int (0 : Int32)), (.int (0 : Int32))] (.int (0 : Int32))
set_option maxRecDepth 65536 in
set_option maxHeartbeats 40000000 in
theorem rmPut_4_0 (l : Launch) (Z : State) (av0 : Array Value) (hw : ∀ d ∈ tables_1, d.before av0 Z = true) (ws : List Jvm.Cond) (a0 : Addr) (ka : ClassId) (cc : Int32) (h0 : Heap) (n0 : Nat) (Z0 : n0 ≤ h0.size) (hA : Arv Z h0 a0 ka .byte (8 : Int32) [(.int (0 : Int32)), (.int (0 : Int32)), (.int (0 : Int32)), (.int (0 : Int32)), (.int (0 : Int32)), (.int (0 : Int32)), (.int (0 : Int32)), (.int (0 : Int32))] (.int (0 : Int32))) (hge : n0 ≤ a0) (sA : Sta Z h0 "java/lang/StringUTF16" "$assertionsDisabled" "Z" (.int (1 : Int32))) (sH : Sta Z h0 "java/lang/StringUTF16" "HI_BYTE_SHIFT" "I" (.int (0 : Int32))) (sL : Sta Z h0 "java/lang/StringUTF16" "LO_BYTE_SHIFT" "I" (.int (8 : Int32))) :
    own_Met l mN19 jdk_52_method_4_code 3 none ws ({ frames := 0, cells := 0, slots := 0, locals := 0 } : Room) #[(.ref a0), (.int 0), (.int cc)] Z h0 (QrmPut_4_0 Z a0 ka cc h0 n0) := by
  refine MetFree.of_bodySF (plainFor_of_name pn_StringUTF16) hisR ?_
  intro p e s m args below meth c s₁ Bd hml0 hP hK
  obtain ⟨rfl, hZ, hh⟩ := hP
  have hml : c.maxLocals = 3 := hml0
  obtain ⟨hx, hby, hown, hnm, X0, e0⟩ := own_start Bd hml0 hh
  have N0 := Fr.nil n0
  have pre0 : ∀ t, oS p e below s₁ (mkF m 0 #[rv a0, iv 0, iv cc] []) t → Steps p.tables e below (s₁.setTop (entryFrame m #[(.ref a0), (.int 0), (.int cc)] 3)) t := fun t k => castTop (by first | (simp [entryFrame, mkF, argsToLocals, Value.category]; done) | rfl) k
  obtain ⟨T1, X1, e1, st1⟩ := getS2 X0 hx hZ hown (host := "") (Or.inl (hw _ (own_w 91 rfl))) Via.refl e0 sA (g := (mkF m 0 #[rv a0, iv 0, iv cc] [])) rfl (hb hby d20_0)
  obtain ⟨T2, X2, e2, st2⟩ := getS2 X1 hx hZ hown (host := "") (Or.inl (hw _ (own_w 92 rfl))) Via.refl e1 sH (g := (mkF m 38 #[rv a0, iv 1, iv cc] [(.int cc), (.int 0), (.ref a0)])) rfl (hb hby d20_38)
  obtain ⟨cl3, Ar3, qk3, Sz3, Ng3, Hs3, Gs3⟩ := id hA
  have hin3 : ¬ ((0 : Int32) < 0 ∨ cl3.slots.size ≤ ((0 : Int32)).toNatClampNeg) := inb_of Sz3 ⟨by decide, by decide⟩
  obtain ⟨T4, h4, X4, e4, W4, st4⟩ := stB X2 hx hZ e2 Ar3 (j := (0 : Int32)) hin3 (g := (mkF m 43 #[rv a0, iv 1, iv cc] [(.int ((cc >>> ((0 : Int32) &&& 31))).toInt8.toInt32), (.int 0), (.ref a0)])) rfl rfl (hb hby d20_43)
  have N4 := Fr.snoc X4 N0 hge
  have Z4 : n0 ≤ h4.size := Nat.le_trans Z0 (Nat.le_of_eq W4.size.symm)
  have K4 : Keep h0 h4 [a0] := (Keep.refl h0 [a0]).wr W4 (Or.inl (List.mem_of_getElem? (i := 0) rfl))
  have V4 : Arv Z h4 a0 ka .byte (8 : Int32) [(.int (nar .byte ((cc >>> ((0 : Int32) &&& 31))).toInt8.toInt32)), (.int (0 : Int32)), (.int (0 : Int32)), (.int (0 : Int32)), (.int (0 : Int32)), (.int (0 : Int32)), (.int (0 : Int32)), (.int (0 : Int32))] (.int (0 : Int32)) := Arv.set Ar3 qk3 Sz3 Ng3 Hs3 Gs3 (fits_nar_byte _) W4 0 rfl (Nat.le_of_ble_eq_true rfl)
  have f5 := (sL.wr W4)
  obtain ⟨T6, X6, e6, st6⟩ := getS2 X4 hx hZ hown (host := "") (Or.inl (hw _ (own_w 93 rfl))) Via.refl e4 f5 (g := (mkF m 47 #[rv a0, iv 1, iv cc] [(.int cc), (.int 1), (.ref a0)])) rfl (hb hby d20_47)
  obtain ⟨cl7, Ar7, qk7, Sz7, Ng7, Hs7, Gs7⟩ := id V4
  have hin7 : ¬ ((1 : Int32) < 0 ∨ cl7.slots.size ≤ ((1 : Int32)).toNatClampNeg) := inb_of Sz7 ⟨by decide, by decide⟩
  obtain ⟨T8, h8, X8, e8, W8, st8⟩ := stB X6 hx hZ e6 Ar7 (j := (1 : Int32)) hin7 (g := (mkF m 52 #[rv a0, iv 1, iv cc] [(.int ((cc >>> ((8 : Int32) &&& 31))).toInt8.toInt32), (.int 1), (.ref a0)])) rfl rfl (hb hby d20_52)
  have N8 := Fr.snoc X8 N4 hge
  have Z8 : n0 ≤ h8.size := Nat.le_trans Z4 (Nat.le_of_eq W8.size.symm)
  have K8 : Keep h0 h8 [a0] := K4.wr W8 (Or.inl (List.mem_of_getElem? (i := 0) rfl))
  have V8 : Arv Z h8 a0 ka .byte (8 : Int32) [(.int (nar .byte ((cc >>> ((0 : Int32) &&& 31))).toInt8.toInt32)), (.int (nar .byte ((cc >>> ((8 : Int32) &&& 31))).toInt8.toInt32)), (.int (0 : Int32)), (.int (0 : Int32)), (.int (0 : Int32)), (.int (0 : Int32)), (.int (0 : Int32)), (.int (0 : Int32))] (.int (0 : Int32)) := Arv.set Ar7 qk7 Sz7 Ng7 Hs7 Gs7 (fits_nar_byte _) W8 1 rfl (Nat.le_of_ble_eq_true rfl)
  have S9 : ∀ t, oS p e below T8 (mkF m 53 #[rv a0, iv 1, iv cc] []) t → oS p e below s₁ (mkF m 0 #[rv a0, iv 0, iv cc] []) t := fun t k => id (by
    show oS p e below s₁ (mkF m 0 #[rv a0, iv 0, iv cc] []) _
    refine st1 _ ?_
    refine XS.ifYes X1.here hx rfl (pc0 := 3) (pc' := 28) rfl (hb hby d20_3) rfl (XT.i0_ne_t (by decide)) (by decide) (by decide) ?_
    refine XS.iloadN X1.here hx rfl (hb hby d20_28) rfl ?_
    refine XT.iconstV X1.here hx rfl (1 : Int32) (hb hby d20_29) (by decide) ?_
    refine XT.ishl X1.here hx rfl (hb hby d20_30) rfl ?_
    refine XS.istoreN X1.here hx rfl (hb hby d20_31) rfl (l' := #[rv a0, iv 0, iv cc]) rfl ?_
    refine XS.aloadN X1.here hx rfl (hb hby d20_32) rfl rfl ?_
    refine XS.iloadN X1.here hx rfl (hb hby d20_33) rfl ?_
    refine XT.iincV X1.here hx rfl (1 : Int32) (hb hby d20_34) (by decide) rfl (l' := #[rv a0, iv 1, iv cc]) rfl ?_
    refine XS.iloadN X1.here hx rfl (hb hby d20_37) rfl ?_
    refine st2 _ ?_
    refine XT.ishr X2.here hx rfl (hb hby d20_41) rfl ?_
    refine XT.i2b X2.here hx rfl (hb hby d20_42) rfl ?_
    refine st4 _ ?_
    refine XS.aloadN X4.here hx rfl (hb hby d20_44) rfl rfl ?_
    refine XS.iloadN X4.here hx rfl (hb hby d20_45) rfl ?_
    refine XS.iloadN X4.here hx rfl (hb hby d20_46) rfl ?_
    refine st6 _ ?_
    refine XT.ishr X6.here hx rfl (hb hby d20_50) rfl ?_
    refine XT.i2b X6.here hx rfl (hb hby d20_51) rfl ?_
    show oS p e below T6 (mkF m 52 #[rv a0, iv 1, iv cc] [(.int ((cc >>> ((8 : Int32) &&& 31))).toInt8.toInt32), (.int 1), (.ref a0)]) _
    refine st8 _ ?_
    exact k)
  obtain ⟨fs, hr, hrun, hended, hW, hsame⟩ := X8.leave (v := none) (fun _ => rfl)
  refine ⟨_, _, pre0 _ (S9 _ ?_), hrun, hended, _, _, rfl, ?_, ⟨_, rfl⟩, hW, hsame.mono (by decide) (by decide)⟩
  · exact X8.returnOut hx Bd.returns (hb hby d20_53) hr
  · show QrmPut_4_0 Z a0 ka cc h0 n0 _ T8.heap _
    rw [e8]
    exact ⟨rfl, N8, K8, V8⟩
def QrmPut_4_1 (Z : State) (a0 : Addr) (ka : ClassId) (cc : Int32) (c0 : Int32) (h0 : Heap) (n0 : Nat) (v : Option Value) (h : Heap) (L : List Loc) : Prop := v = none ∧ Fr n0 L ∧ Keep h0 h [a0] ∧ Arv Z h a0 ka .byte (8 : Int32) [(.int (own_lo c0)), (.int (own_hi c0)), (.int (own_lo cc)), (.int (own_hi cc)), (.int (0 : Int32)), (.int (0 : Int32)), (.int (0 : Int32)), (.int (0 : Int32))] (.int (0 : Int32))
set_option maxRecDepth 65536 in
set_option maxHeartbeats 40000000 in
theorem rmPut_4_1 (l : Launch) (Z : State) (av0 : Array Value) (hw : ∀ d ∈ tables_1, d.before av0 Z = true) (ws : List Jvm.Cond) (a0 : Addr) (ka : ClassId) (cc : Int32) (c0 : Int32) (h0 : Heap) (n0 : Nat) (Z0 : n0 ≤ h0.size) (hA : Arv Z h0 a0 ka .byte (8 : Int32) [(.int (own_lo c0)), (.int (own_hi c0)), (.int (0 : Int32)), (.int (0 : Int32)), (.int (0 : Int32)), (.int (0 : Int32)), (.int (0 : Int32)), (.int (0 : Int32))] (.int (0 : Int32))) (hge : n0 ≤ a0) (sA : Sta Z h0 "java/lang/StringUTF16" "$assertionsDisabled" "Z" (.int (1 : Int32))) (sH : Sta Z h0 "java/lang/StringUTF16" "HI_BYTE_SHIFT" "I" (.int (0 : Int32))) (sL : Sta Z h0 "java/lang/StringUTF16" "LO_BYTE_SHIFT" "I" (.int (8 : Int32))) :
    own_Met l mN19 jdk_52_method_4_code 3 none ws ({ frames := 0, cells := 0, slots := 0, locals := 0 } : Room) #[(.ref a0), (.int 1), (.int cc)] Z h0 (QrmPut_4_1 Z a0 ka cc c0 h0 n0) := by
  refine MetFree.of_bodySF (plainFor_of_name pn_StringUTF16) hisR ?_
  intro p e s m args below meth c s₁ Bd hml0 hP hK
  obtain ⟨rfl, hZ, hh⟩ := hP
  have hml : c.maxLocals = 3 := hml0
  obtain ⟨hx, hby, hown, hnm, X0, e0⟩ := own_start Bd hml0 hh
  have N0 := Fr.nil n0
  have pre0 : ∀ t, oS p e below s₁ (mkF m 0 #[rv a0, iv 1, iv cc] []) t → Steps p.tables e below (s₁.setTop (entryFrame m #[(.ref a0), (.int 1), (.int cc)] 3)) t := fun t k => castTop (by first | (simp [entryFrame, mkF, argsToLocals, Value.category]; done) | rfl) k
  obtain ⟨T1, X1, e1, st1⟩ := getS2 X0 hx hZ hown (host := "") (Or.inl (hw _ (own_w 91 rfl))) Via.refl e0 sA (g := (mkF m 0 #[rv a0, iv 1, iv cc] [])) rfl (hb hby d20_0)
  obtain ⟨T2, X2, e2, st2⟩ := getS2 X1 hx hZ hown (host := "") (Or.inl (hw _ (own_w 92 rfl))) Via.refl e1 sH (g := (mkF m 38 #[rv a0, iv 3, iv cc] [(.int cc), (.int 2), (.ref a0)])) rfl (hb hby d20_38)
  obtain ⟨cl3, Ar3, qk3, Sz3, Ng3, Hs3, Gs3⟩ := id hA
  have hin3 : ¬ ((2 : Int32) < 0 ∨ cl3.slots.size ≤ ((2 : Int32)).toNatClampNeg) := inb_of Sz3 ⟨by decide, by decide⟩
  obtain ⟨T4, h4, X4, e4, W4, st4⟩ := stB X2 hx hZ e2 Ar3 (j := (2 : Int32)) hin3 (g := (mkF m 43 #[rv a0, iv 3, iv cc] [(.int ((cc >>> ((0 : Int32) &&& 31))).toInt8.toInt32), (.int 2), (.ref a0)])) rfl rfl (hb hby d20_43)
  have N4 := Fr.snoc X4 N0 hge
  have Z4 : n0 ≤ h4.size := Nat.le_trans Z0 (Nat.le_of_eq W4.size.symm)
  have K4 : Keep h0 h4 [a0] := (Keep.refl h0 [a0]).wr W4 (Or.inl (List.mem_of_getElem? (i := 0) rfl))
  have V4 : Arv Z h4 a0 ka .byte (8 : Int32) [(.int (own_lo c0)), (.int (own_hi c0)), (.int (nar .byte ((cc >>> ((0 : Int32) &&& 31))).toInt8.toInt32)), (.int (0 : Int32)), (.int (0 : Int32)), (.int (0 : Int32)), (.int (0 : Int32)), (.int (0 : Int32))] (.int (0 : Int32)) := Arv.set Ar3 qk3 Sz3 Ng3 Hs3 Gs3 (fits_nar_byte _) W4 2 rfl (Nat.le_of_ble_eq_true rfl)
  have f5 := (sL.wr W4)
  obtain ⟨T6, X6, e6, st6⟩ := getS2 X4 hx hZ hown (host := "") (Or.inl (hw _ (own_w 93 rfl))) Via.refl e4 f5 (g := (mkF m 47 #[rv a0, iv 3, iv cc] [(.int cc), (.int 3), (.ref a0)])) rfl (hb hby d20_47)
  obtain ⟨cl7, Ar7, qk7, Sz7, Ng7, Hs7, Gs7⟩ := id V4
  have hin7 : ¬ ((3 : Int32) < 0 ∨ cl7.slots.size ≤ ((3 : Int32)).toNatClampNeg) := inb_of Sz7 ⟨by decide, by decide⟩
  obtain ⟨T8, h8, X8, e8, W8, st8⟩ := stB X6 hx hZ e6 Ar7 (j := (3 : Int32)) hin7 (g := (mkF m 52 #[rv a0, iv 3, iv cc] [(.int ((cc >>> ((8 : Int32) &&& 31))).toInt8.toInt32), (.int 3), (.ref a0)])) rfl rfl (hb hby d20_52)
  have N8 := Fr.snoc X8 N4 hge
  have Z8 : n0 ≤ h8.size := Nat.le_trans Z4 (Nat.le_of_eq W8.size.symm)
  have K8 : Keep h0 h8 [a0] := K4.wr W8 (Or.inl (List.mem_of_getElem? (i := 0) rfl))
  have V8 : Arv Z h8 a0 ka .byte (8 : Int32) [(.int (own_lo c0)), (.int (own_hi c0)), (.int (nar .byte ((cc >>> ((0 : Int32) &&& 31))).toInt8.toInt32)), (.int (nar .byte ((cc >>> ((8 : Int32) &&& 31))).toInt8.toInt32)), (.int (0 : Int32)), (.int (0 : Int32)), (.int (0 : Int32)), (.int (0 : Int32))] (.int (0 : Int32)) := Arv.set Ar7 qk7 Sz7 Ng7 Hs7 Gs7 (fits_nar_byte _) W8 3 rfl (Nat.le_of_ble_eq_true rfl)
  have S9 : ∀ t, oS p e below T8 (mkF m 53 #[rv a0, iv 3, iv cc] []) t → oS p e below s₁ (mkF m 0 #[rv a0, iv 1, iv cc] []) t := fun t k => id (by
    show oS p e below s₁ (mkF m 0 #[rv a0, iv 1, iv cc] []) _
    refine st1 _ ?_
    refine XS.ifYes X1.here hx rfl (pc0 := 3) (pc' := 28) rfl (hb hby d20_3) rfl (XT.i0_ne_t (by decide)) (by decide) (by decide) ?_
    refine XS.iloadN X1.here hx rfl (hb hby d20_28) rfl ?_
    refine XT.iconstV X1.here hx rfl (1 : Int32) (hb hby d20_29) (by decide) ?_
    refine XT.ishl X1.here hx rfl (hb hby d20_30) rfl ?_
    refine XS.istoreN X1.here hx rfl (hb hby d20_31) rfl (l' := #[rv a0, iv 2, iv cc]) rfl ?_
    refine XS.aloadN X1.here hx rfl (hb hby d20_32) rfl rfl ?_
    refine XS.iloadN X1.here hx rfl (hb hby d20_33) rfl ?_
    refine XT.iincV X1.here hx rfl (1 : Int32) (hb hby d20_34) (by decide) rfl (l' := #[rv a0, iv 3, iv cc]) rfl ?_
    refine XS.iloadN X1.here hx rfl (hb hby d20_37) rfl ?_
    refine st2 _ ?_
    refine XT.ishr X2.here hx rfl (hb hby d20_41) rfl ?_
    refine XT.i2b X2.here hx rfl (hb hby d20_42) rfl ?_
    refine st4 _ ?_
    refine XS.aloadN X4.here hx rfl (hb hby d20_44) rfl rfl ?_
    refine XS.iloadN X4.here hx rfl (hb hby d20_45) rfl ?_
    refine XS.iloadN X4.here hx rfl (hb hby d20_46) rfl ?_
    refine st6 _ ?_
    refine XT.ishr X6.here hx rfl (hb hby d20_50) rfl ?_
    refine XT.i2b X6.here hx rfl (hb hby d20_51) rfl ?_
    show oS p e below T6 (mkF m 52 #[rv a0, iv 3, iv cc] [(.int ((cc >>> ((8 : Int32) &&& 31))).toInt8.toInt32), (.int 3), (.ref a0)]) _
    refine st8 _ ?_
    exact k)
  obtain ⟨fs, hr, hrun, hended, hW, hsame⟩ := X8.leave (v := none) (fun _ => rfl)
  refine ⟨_, _, pre0 _ (S9 _ ?_), hrun, hended, _, _, rfl, ?_, ⟨_, rfl⟩, hW, hsame.mono (by decide) (by decide)⟩
  · exact X8.returnOut hx Bd.returns (hb hby d20_53) hr
  · show QrmPut_4_1 Z a0 ka cc c0 h0 n0 _ T8.heap _
    rw [e8]
    exact ⟨rfl, N8, K8, V8⟩
def QrmPut_4_2 (Z : State) (a0 : Addr) (ka : ClassId) (cc : Int32) (c0 : Int32) (c1 : Int32) (h0 : Heap) (n0 : Nat) (v : Option Value) (h : Heap) (L : List Loc) : Prop := v = none ∧ Fr n0 L ∧ Keep h0 h [a0] ∧ Arv Z h a0 ka .byte (8 : Int32) [(.int (own_lo c0)), (.int (own_hi c0)), (.int (own_lo c1)), (.int (own_hi c1)), (.int (own_lo cc)), (.int (own_hi cc)), (.int (0 : Int32)), (.int (0 : Int32))] (.int (0 : Int32))
set_option maxRecDepth 65536 in
set_option maxHeartbeats 40000000 in
theorem rmPut_4_2 (l : Launch) (Z : State) (av0 : Array Value) (hw : ∀ d ∈ tables_1, d.before av0 Z = true) (ws : List Jvm.Cond) (a0 : Addr) (ka : ClassId) (cc : Int32) (c0 : Int32) (c1 : Int32) (h0 : Heap) (n0 : Nat) (Z0 : n0 ≤ h0.size) (hA : Arv Z h0 a0 ka .byte (8 : Int32) [(.int (own_lo c0)), (.int (own_hi c0)), (.int (own_lo c1)), (.int (own_hi c1)), (.int (0 : Int32)), (.int (0 : Int32)), (.int (0 : Int32)), (.int (0 : Int32))] (.int (0 : Int32))) (hge : n0 ≤ a0) (sA : Sta Z h0 "java/lang/StringUTF16" "$assertionsDisabled" "Z" (.int (1 : Int32))) (sH : Sta Z h0 "java/lang/StringUTF16" "HI_BYTE_SHIFT" "I" (.int (0 : Int32))) (sL : Sta Z h0 "java/lang/StringUTF16" "LO_BYTE_SHIFT" "I" (.int (8 : Int32))) :
    own_Met l mN19 jdk_52_method_4_code 3 none ws ({ frames := 0, cells := 0, slots := 0, locals := 0 } : Room) #[(.ref a0), (.int 2), (.int cc)] Z h0 (QrmPut_4_2 Z a0 ka cc c0 c1 h0 n0) := by
  refine MetFree.of_bodySF (plainFor_of_name pn_StringUTF16) hisR ?_
  intro p e s m args below meth c s₁ Bd hml0 hP hK
  obtain ⟨rfl, hZ, hh⟩ := hP
  have hml : c.maxLocals = 3 := hml0
  obtain ⟨hx, hby, hown, hnm, X0, e0⟩ := own_start Bd hml0 hh
  have N0 := Fr.nil n0
  have pre0 : ∀ t, oS p e below s₁ (mkF m 0 #[rv a0, iv 2, iv cc] []) t → Steps p.tables e below (s₁.setTop (entryFrame m #[(.ref a0), (.int 2), (.int cc)] 3)) t := fun t k => castTop (by first | (simp [entryFrame, mkF, argsToLocals, Value.category]; done) | rfl) k
  obtain ⟨T1, X1, e1, st1⟩ := getS2 X0 hx hZ hown (host := "") (Or.inl (hw _ (own_w 91 rfl))) Via.refl e0 sA (g := (mkF m 0 #[rv a0, iv 2, iv cc] [])) rfl (hb hby d20_0)
  obtain ⟨T2, X2, e2, st2⟩ := getS2 X1 hx hZ hown (host := "") (Or.inl (hw _ (own_w 92 rfl))) Via.refl e1 sH (g := (mkF m 38 #[rv a0, iv 5, iv cc] [(.int cc), (.int 4), (.ref a0)])) rfl (hb hby d20_38)
  obtain ⟨cl3, Ar3, qk3, Sz3, Ng3, Hs3, Gs3⟩ := id hA
  have hin3 : ¬ ((4 : Int32) < 0 ∨ cl3.slots.size ≤ ((4 : Int32)).toNatClampNeg) := inb_of Sz3 ⟨by decide, by decide⟩
  obtain ⟨T4, h4, X4, e4, W4, st4⟩ := stB X2 hx hZ e2 Ar3 (j := (4 : Int32)) hin3 (g := (mkF m 43 #[rv a0, iv 5, iv cc] [(.int ((cc >>> ((0 : Int32) &&& 31))).toInt8.toInt32), (.int 4), (.ref a0)])) rfl rfl (hb hby d20_43)
  have N4 := Fr.snoc X4 N0 hge
  have Z4 : n0 ≤ h4.size := Nat.le_trans Z0 (Nat.le_of_eq W4.size.symm)
  have K4 : Keep h0 h4 [a0] := (Keep.refl h0 [a0]).wr W4 (Or.inl (List.mem_of_getElem? (i := 0) rfl))
  have V4 : Arv Z h4 a0 ka .byte (8 : Int32) [(.int (own_lo c0)), (.int (own_hi c0)), (.int (own_lo c1)), (.int (own_hi c1)), (.int (nar .byte ((cc >>> ((0 : Int32) &&& 31))).toInt8.toInt32)), (.int (0 : Int32)), (.int (0 : Int32)), (.int (0 : Int32))] (.int (0 : Int32)) := Arv.set Ar3 qk3 Sz3 Ng3 Hs3 Gs3 (fits_nar_byte _) W4 4 rfl (Nat.le_of_ble_eq_true rfl)
  have f5 := (sL.wr W4)
  obtain ⟨T6, X6, e6, st6⟩ := getS2 X4 hx hZ hown (host := "") (Or.inl (hw _ (own_w 93 rfl))) Via.refl e4 f5 (g := (mkF m 47 #[rv a0, iv 5, iv cc] [(.int cc), (.int 5), (.ref a0)])) rfl (hb hby d20_47)
  obtain ⟨cl7, Ar7, qk7, Sz7, Ng7, Hs7, Gs7⟩ := id V4
  have hin7 : ¬ ((5 : Int32) < 0 ∨ cl7.slots.size ≤ ((5 : Int32)).toNatClampNeg) := inb_of Sz7 ⟨by decide, by decide⟩
  obtain ⟨T8, h8, X8, e8, W8, st8⟩ := stB X6 hx hZ e6 Ar7 (j := (5 : Int32)) hin7 (g := (mkF m 52 #[rv a0, iv 5, iv cc] [(.int ((cc >>> ((8 : Int32) &&& 31))).toInt8.toInt32), (.int 5), (.ref a0)])) rfl rfl (hb hby d20_52)
  have N8 := Fr.snoc X8 N4 hge
  have Z8 : n0 ≤ h8.size := Nat.le_trans Z4 (Nat.le_of_eq W8.size.symm)
  have K8 : Keep h0 h8 [a0] := K4.wr W8 (Or.inl (List.mem_of_getElem? (i := 0) rfl))
  have V8 : Arv Z h8 a0 ka .byte (8 : Int32) [(.int (own_lo c0)), (.int (own_hi c0)), (.int (own_lo c1)), (.int (own_hi c1)), (.int (nar .byte ((cc >>> ((0 : Int32) &&& 31))).toInt8.toInt32)), (.int (nar .byte ((cc >>> ((8 : Int32) &&& 31))).toInt8.toInt32)), (.int (0 : Int32)), (.int (0 : Int32))] (.int (0 : Int32)) := Arv.set Ar7 qk7 Sz7 Ng7 Hs7 Gs7 (fits_nar_byte _) W8 5 rfl (Nat.le_of_ble_eq_true rfl)
  have S9 : ∀ t, oS p e below T8 (mkF m 53 #[rv a0, iv 5, iv cc] []) t → oS p e below s₁ (mkF m 0 #[rv a0, iv 2, iv cc] []) t := fun t k => id (by
    show oS p e below s₁ (mkF m 0 #[rv a0, iv 2, iv cc] []) _
    refine st1 _ ?_
    refine XS.ifYes X1.here hx rfl (pc0 := 3) (pc' := 28) rfl (hb hby d20_3) rfl (XT.i0_ne_t (by decide)) (by decide) (by decide) ?_
    refine XS.iloadN X1.here hx rfl (hb hby d20_28) rfl ?_
    refine XT.iconstV X1.here hx rfl (1 : Int32) (hb hby d20_29) (by decide) ?_
    refine XT.ishl X1.here hx rfl (hb hby d20_30) rfl ?_
    refine XS.istoreN X1.here hx rfl (hb hby d20_31) rfl (l' := #[rv a0, iv 4, iv cc]) rfl ?_
    refine XS.aloadN X1.here hx rfl (hb hby d20_32) rfl rfl ?_
    refine XS.iloadN X1.here hx rfl (hb hby d20_33) rfl ?_
    refine XT.iincV X1.here hx rfl (1 : Int32) (hb hby d20_34) (by decide) rfl (l' := #[rv a0, iv 5, iv cc]) rfl ?_
    refine XS.iloadN X1.here hx rfl (hb hby d20_37) rfl ?_
    refine st2 _ ?_
    refine XT.ishr X2.here hx rfl (hb hby d20_41) rfl ?_
    refine XT.i2b X2.here hx rfl (hb hby d20_42) rfl ?_
    refine st4 _ ?_
    refine XS.aloadN X4.here hx rfl (hb hby d20_44) rfl rfl ?_
    refine XS.iloadN X4.here hx rfl (hb hby d20_45) rfl ?_
    refine XS.iloadN X4.here hx rfl (hb hby d20_46) rfl ?_
    refine st6 _ ?_
    refine XT.ishr X6.here hx rfl (hb hby d20_50) rfl ?_
    refine XT.i2b X6.here hx rfl (hb hby d20_51) rfl ?_
    show oS p e below T6 (mkF m 52 #[rv a0, iv 5, iv cc] [(.int ((cc >>> ((8 : Int32) &&& 31))).toInt8.toInt32), (.int 5), (.ref a0)]) _
    refine st8 _ ?_
    exact k)
  obtain ⟨fs, hr, hrun, hended, hW, hsame⟩ := X8.leave (v := none) (fun _ => rfl)
  refine ⟨_, _, pre0 _ (S9 _ ?_), hrun, hended, _, _, rfl, ?_, ⟨_, rfl⟩, hW, hsame.mono (by decide) (by decide)⟩
  · exact X8.returnOut hx Bd.returns (hb hby d20_53) hr
  · show QrmPut_4_2 Z a0 ka cc c0 c1 h0 n0 _ T8.heap _
    rw [e8]
    exact ⟨rfl, N8, K8, V8⟩
def QrmPut_4_3 (Z : State) (a0 : Addr) (ka : ClassId) (cc : Int32) (c0 : Int32) (c1 : Int32) (c2 : Int32) (h0 : Heap) (n0 : Nat) (v : Option Value) (h : Heap) (L : List Loc) : Prop := v = none ∧ Fr n0 L ∧ Keep h0 h [a0] ∧ Arv Z h a0 ka .byte (8 : Int32) [(.int (own_lo c0)), (.int (own_hi c0)), (.int (own_lo c1)), (.int (own_hi c1)), (.int (own_lo c2)), (.int (own_hi c2)), (.int (own_lo cc)), (.int (own_hi cc))] (.int (0 : Int32))
set_option maxRecDepth 65536 in
set_option maxHeartbeats 40000000 in
theorem rmPut_4_3 (l : Launch) (Z : State) (av0 : Array Value) (hw : ∀ d ∈ tables_1, d.before av0 Z = true) (ws : List Jvm.Cond) (a0 : Addr) (ka : ClassId) (cc : Int32) (c0 : Int32) (c1 : Int32) (c2 : Int32) (h0 : Heap) (n0 : Nat) (Z0 : n0 ≤ h0.size) (hA : Arv Z h0 a0 ka .byte (8 : Int32) [(.int (own_lo c0)), (.int (own_hi c0)), (.int (own_lo c1)), (.int (own_hi c1)), (.int (own_lo c2)), (.int (own_hi c2)), (.int (0 : Int32)), (.int (0 : Int32))] (.int (0 : Int32))) (hge : n0 ≤ a0) (sA : Sta Z h0 "java/lang/StringUTF16" "$assertionsDisabled" "Z" (.int (1 : Int32))) (sH : Sta Z h0 "java/lang/StringUTF16" "HI_BYTE_SHIFT" "I" (.int (0 : Int32))) (sL : Sta Z h0 "java/lang/StringUTF16" "LO_BYTE_SHIFT" "I" (.int (8 : Int32))) :
    own_Met l mN19 jdk_52_method_4_code 3 none ws ({ frames := 0, cells := 0, slots := 0, locals := 0 } : Room) #[(.ref a0), (.int 3), (.int cc)] Z h0 (QrmPut_4_3 Z a0 ka cc c0 c1 c2 h0 n0) := by
  refine MetFree.of_bodySF (plainFor_of_name pn_StringUTF16) hisR ?_
  intro p e s m args below meth c s₁ Bd hml0 hP hK
  obtain ⟨rfl, hZ, hh⟩ := hP
  have hml : c.maxLocals = 3 := hml0
  obtain ⟨hx, hby, hown, hnm, X0, e0⟩ := own_start Bd hml0 hh
  have N0 := Fr.nil n0
  have pre0 : ∀ t, oS p e below s₁ (mkF m 0 #[rv a0, iv 3, iv cc] []) t → Steps p.tables e below (s₁.setTop (entryFrame m #[(.ref a0), (.int 3), (.int cc)] 3)) t := fun t k => castTop (by first | (simp [entryFrame, mkF, argsToLocals, Value.category]; done) | rfl) k
  obtain ⟨T1, X1, e1, st1⟩ := getS2 X0 hx hZ hown (host := "") (Or.inl (hw _ (own_w 91 rfl))) Via.refl e0 sA (g := (mkF m 0 #[rv a0, iv 3, iv cc] [])) rfl (hb hby d20_0)
  obtain ⟨T2, X2, e2, st2⟩ := getS2 X1 hx hZ hown (host := "") (Or.inl (hw _ (own_w 92 rfl))) Via.refl e1 sH (g := (mkF m 38 #[rv a0, iv 7, iv cc] [(.int cc), (.int 6), (.ref a0)])) rfl (hb hby d20_38)
  obtain ⟨cl3, Ar3, qk3, Sz3, Ng3, Hs3, Gs3⟩ := id hA
  have hin3 : ¬ ((6 : Int32) < 0 ∨ cl3.slots.size ≤ ((6 : Int32)).toNatClampNeg) := inb_of Sz3 ⟨by decide, by decide⟩
  obtain ⟨T4, h4, X4, e4, W4, st4⟩ := stB X2 hx hZ e2 Ar3 (j := (6 : Int32)) hin3 (g := (mkF m 43 #[rv a0, iv 7, iv cc] [(.int ((cc >>> ((0 : Int32) &&& 31))).toInt8.toInt32), (.int 6), (.ref a0)])) rfl rfl (hb hby d20_43)
  have N4 := Fr.snoc X4 N0 hge
  have Z4 : n0 ≤ h4.size := Nat.le_trans Z0 (Nat.le_of_eq W4.size.symm)
  have K4 : Keep h0 h4 [a0] := (Keep.refl h0 [a0]).wr W4 (Or.inl (List.mem_of_getElem? (i := 0) rfl))
  have V4 : Arv Z h4 a0 ka .byte (8 : Int32) [(.int (own_lo c0)), (.int (own_hi c0)), (.int (own_lo c1)), (.int (own_hi c1)), (.int (own_lo c2)), (.int (own_hi c2)), (.int (nar .byte ((cc >>> ((0 : Int32) &&& 31))).toInt8.toInt32)), (.int (0 : Int32))] (.int (0 : Int32)) := Arv.set Ar3 qk3 Sz3 Ng3 Hs3 Gs3 (fits_nar_byte _) W4 6 rfl (Nat.le_of_ble_eq_true rfl)
  have f5 := (sL.wr W4)
  obtain ⟨T6, X6, e6, st6⟩ := getS2 X4 hx hZ hown (host := "") (Or.inl (hw _ (own_w 93 rfl))) Via.refl e4 f5 (g := (mkF m 47 #[rv a0, iv 7, iv cc] [(.int cc), (.int 7), (.ref a0)])) rfl (hb hby d20_47)
  obtain ⟨cl7, Ar7, qk7, Sz7, Ng7, Hs7, Gs7⟩ := id V4
  have hin7 : ¬ ((7 : Int32) < 0 ∨ cl7.slots.size ≤ ((7 : Int32)).toNatClampNeg) := inb_of Sz7 ⟨by decide, by decide⟩
  obtain ⟨T8, h8, X8, e8, W8, st8⟩ := stB X6 hx hZ e6 Ar7 (j := (7 : Int32)) hin7 (g := (mkF m 52 #[rv a0, iv 7, iv cc] [(.int ((cc >>> ((8 : Int32) &&& 31))).toInt8.toInt32), (.int 7), (.ref a0)])) rfl rfl (hb hby d20_52)
  have N8 := Fr.snoc X8 N4 hge
  have Z8 : n0 ≤ h8.size := Nat.le_trans Z4 (Nat.le_of_eq W8.size.symm)
  have K8 : Keep h0 h8 [a0] := K4.wr W8 (Or.inl (List.mem_of_getElem? (i := 0) rfl))
  have V8 : Arv Z h8 a0 ka .byte (8 : Int32) [(.int (own_lo c0)), (.int (own_hi c0)), (.int (own_lo c1)), (.int (own_hi c1)), (.int (own_lo c2)), (.int (own_hi c2)), (.int (nar .byte ((cc >>> ((0 : Int32) &&& 31))).toInt8.toInt32)), (.int (nar .byte ((cc >>> ((8 : Int32) &&& 31))).toInt8.toInt32))] (.int (0 : Int32)) := Arv.set Ar7 qk7 Sz7 Ng7 Hs7 Gs7 (fits_nar_byte _) W8 7 rfl (Nat.le_of_ble_eq_true rfl)
  have S9 : ∀ t, oS p e below T8 (mkF m 53 #[rv a0, iv 7, iv cc] []) t → oS p e below s₁ (mkF m 0 #[rv a0, iv 3, iv cc] []) t := fun t k => id (by
    show oS p e below s₁ (mkF m 0 #[rv a0, iv 3, iv cc] []) _
    refine st1 _ ?_
    refine XS.ifYes X1.here hx rfl (pc0 := 3) (pc' := 28) rfl (hb hby d20_3) rfl (XT.i0_ne_t (by decide)) (by decide) (by decide) ?_
    refine XS.iloadN X1.here hx rfl (hb hby d20_28) rfl ?_
    refine XT.iconstV X1.here hx rfl (1 : Int32) (hb hby d20_29) (by decide) ?_
    refine XT.ishl X1.here hx rfl (hb hby d20_30) rfl ?_
    refine XS.istoreN X1.here hx rfl (hb hby d20_31) rfl (l' := #[rv a0, iv 6, iv cc]) rfl ?_
    refine XS.aloadN X1.here hx rfl (hb hby d20_32) rfl rfl ?_
    refine XS.iloadN X1.here hx rfl (hb hby d20_33) rfl ?_
    refine XT.iincV X1.here hx rfl (1 : Int32) (hb hby d20_34) (by decide) rfl (l' := #[rv a0, iv 7, iv cc]) rfl ?_
    refine XS.iloadN X1.here hx rfl (hb hby d20_37) rfl ?_
    refine st2 _ ?_
    refine XT.ishr X2.here hx rfl (hb hby d20_41) rfl ?_
    refine XT.i2b X2.here hx rfl (hb hby d20_42) rfl ?_
    refine st4 _ ?_
    refine XS.aloadN X4.here hx rfl (hb hby d20_44) rfl rfl ?_
    refine XS.iloadN X4.here hx rfl (hb hby d20_45) rfl ?_
    refine XS.iloadN X4.here hx rfl (hb hby d20_46) rfl ?_
    refine st6 _ ?_
    refine XT.ishr X6.here hx rfl (hb hby d20_50) rfl ?_
    refine XT.i2b X6.here hx rfl (hb hby d20_51) rfl ?_
    show oS p e below T6 (mkF m 52 #[rv a0, iv 7, iv cc] [(.int ((cc >>> ((8 : Int32) &&& 31))).toInt8.toInt32), (.int 7), (.ref a0)]) _
    refine st8 _ ?_
    exact k)
  obtain ⟨fs, hr, hrun, hended, hW, hsame⟩ := X8.leave (v := none) (fun _ => rfl)
  refine ⟨_, _, pre0 _ (S9 _ ?_), hrun, hended, _, _, rfl, ?_, ⟨_, rfl⟩, hW, hsame.mono (by decide) (by decide)⟩
  · exact X8.returnOut hx Bd.returns (hb hby d20_53) hr
  · show QrmPut_4_3 Z a0 ka cc c0 c1 c2 h0 n0 _ T8.heap _
    rw [e8]
    exact ⟨rfl, N8, K8, V8⟩
def QrmTb_4 (Z : State) (a0 : Addr) (ka : ClassId) (c0 : Int32) (c1 : Int32) (c2 : Int32) (c3 : Int32) (h0 : Heap) (n0 : Nat) (v : Option Value) (h : Heap) (L : List Loc) : Prop := ∃ (b : Addr) (k : ClassId), v = some (.ref b) ∧ Fr n0 L ∧ h0.size ≤ b ∧ Keep h0 h [] ∧ Arv Z h b k .byte (8 : Int32) [(.int (own_lo c0)), (.int (own_hi c0)), (.int (own_lo c1)), (.int (own_hi c1)), (.int (own_lo c2)), (.int (own_hi c2)), (.int (own_lo c3)), (.int (own_hi c3))] (.int (0 : Int32))
set_option maxRecDepth 65536 in
set_option maxHeartbeats 40000000 in
theorem rmTb_4 (l : Launch) (Z : State) (av0 : Array Value) (hw : ∀ d ∈ tables_1, d.before av0 Z = true) (ws : List Jvm.Cond) (a0 : Addr) (ka : ClassId) (c0 : Int32) (c1 : Int32) (c2 : Int32) (c3 : Int32) (h0 : Heap) (n0 : Nat) (Z0 : n0 ≤ h0.size) (hA : Arv Z h0 a0 ka .char (4 : Int32) [(.int c0), (.int c1), (.int c2), (.int c3)] (.int (0 : Int32))) (sA : Sta Z h0 "java/lang/StringUTF16" "$assertionsDisabled" "Z" (.int (1 : Int32))) (sH : Sta Z h0 "java/lang/StringUTF16" "HI_BYTE_SHIFT" "I" (.int (0 : Int32))) (sL : Sta Z h0 "java/lang/StringUTF16" "LO_BYTE_SHIFT" "I" (.int (8 : Int32))) :
    own_Met l mN20 jdk_52_method_14_code 5 (some (.array .byte)) ws ({ frames := 2, cells := 1, slots := 8, locals := 24 } : Room) #[(.ref a0), (.int 0), (.int 4)] Z h0 (QrmTb_4 Z a0 ka c0 c1 c2 c3 h0 n0) := by
  refine MetFree.of_bodySF (plainFor_of_name pn_StringUTF16) hisR ?_
  intro p e s m args below meth c s₁ Bd hml0 hP hK
  obtain ⟨rfl, hZ, hh⟩ := hP
  have hml : c.maxLocals = 5 := hml0
  obtain ⟨hx, hby, hown, hnm, X0, e0⟩ := own_start Bd hml0 hh
  have N0 := Fr.nil n0
  have pre0 : ∀ t, oS p e below s₁ (mkF m 0 #[rv a0, iv 0, iv 4, .unset, .unset] []) t → Steps p.tables e below (s₁.setTop (entryFrame m #[(.ref a0), (.int 0), (.int 4)] 5)) t := fun t k => castTop (by first | (simp [entryFrame, mkF, argsToLocals, Value.category]; done) | rfl) k
  obtain ⟨_, T1, Lc1, X1, hQ1, st1⟩ := own_callS (W := 0) (y := mN18) X0 hx hZ hown (hw _ (own_w 81 rfl)) (hw _ (own_w 82 rfl)) (hw _ (own_w 40 rfl)) (hw _ (own_w 83 rfl)) (by decide) (rmNbf_4 l Z av0 hw []  h0 n0 Z0 ) (by decide) (by decide) (g := (mkF m 1 #[rv a0, iv 0, iv 4, .unset, .unset] [(.int 4)])) rfl (by rw [hml]; rfl) (argsL := [(.int 4)]) (rest := []) (lenOf pd__I_B rfl) rfl (hb hby d17_1) rfl e0 (by decide : 0 + 1 ≤ _) (by decide : 0 + 8 ≤ _)
  obtain ⟨b1, kb1, rfl, N1q, gb1, K1, V1⟩ := hQ1
  have N1 := Fr.app N0 N1q
  have e1 : T1.heap = T1.heap := rfl
  have ne_a0_b1 : a0 ≠ b1 := Nat.ne_of_lt (Nat.lt_of_lt_of_le hA.lt gb1)
  have ge_b1 : n0 ≤ b1 := Nat.le_trans Z0 gb1
  have sz_b1 : h0.size ≤ b1 := gb1
  have Zk1 : n0 ≤ T1.heap.size := Nat.le_trans Z0 K1.1
  have Kk1 : Keep h0 T1.heap [] := (Keep.refl h0 []).trans K1 all0
  have f2 := (hA.keep K1 nin0)
  obtain ⟨cl3, Ar3, qk3, Sz3, Ng3, Hs3, Gs3⟩ := id f2
  have hin3 : ¬ ((0 : Int32) < 0 ∨ cl3.slots.size ≤ ((0 : Int32)).toNatClampNeg) := inb_of Sz3 ⟨by decide, by decide⟩
  have hat3 : cl3.slots[((0 : Int32)).toNatClampNeg]? = some (.int c0) := Hs3.at hin3 rfl
  have f4 := (own_stak sA K1 all0)
  have f5 := (own_stak sH K1 all0)
  have f6 := (own_stak sL K1 all0)
  obtain ⟨_, T7, Lc7, X7, hQ7, st7⟩ := own_callS (W := 0) (y := mN19) X1 hx hZ hown (hw _ (own_w 88 rfl)) (hw _ (own_w 89 rfl)) (hw _ (own_w 40 rfl)) (hw _ (own_w 90 rfl)) (by decide) (rmPut_4_0 l Z av0 hw [] b1 kb1 c0  T1.heap n0 Zk1 V1 ge_b1 f4 f5 f6) (by decide) (by decide) (g := (mkF m 20 #[rv a0, iv 0, iv 4, rv b1, iv 0] [(.int c0), (.int 0), (.ref b1)])) rfl (by rw [hml]; rfl) (argsL := [(.ref b1), (.int 0), (.int c0)]) (rest := []) (lenOf pd__BII_V rfl) rfl (hb hby d17_20) rfl e1 (by decide : 1 + 0 ≤ _) (by decide : 8 + 0 ≤ _)
  obtain ⟨rfl, N7q, K7, V7⟩ := hQ7
  have N7 := Fr.app N1 N7q
  have e7 : T7.heap = T7.heap := rfl
  have Zk7 : n0 ≤ T7.heap.size := Nat.le_trans Zk1 K7.1
  have Kk7 : Keep h0 T7.heap [] := Kk1.trans K7 (allS (Or.inr sz_b1) all0)
  have f8 := (f2.keep K7 (ninS ne_a0_b1 nin0))
  obtain ⟨cl9, Ar9, qk9, Sz9, Ng9, Hs9, Gs9⟩ := id f8
  have hin9 : ¬ ((1 : Int32) < 0 ∨ cl9.slots.size ≤ ((1 : Int32)).toNatClampNeg) := inb_of Sz9 ⟨by decide, by decide⟩
  have hat9 : cl9.slots[((1 : Int32)).toNatClampNeg]? = some (.int c1) := Hs9.at hin9 rfl
  have f10 := (own_stak f4 K7 (allS (own_arns V1) all0))
  have f11 := (own_stak f5 K7 (allS (own_arns V1) all0))
  have f12 := (own_stak f6 K7 (allS (own_arns V1) all0))
  obtain ⟨_, T13, Lc13, X13, hQ13, st13⟩ := own_callS (W := 0) (y := mN19) X7 hx hZ hown (hw _ (own_w 88 rfl)) (hw _ (own_w 89 rfl)) (hw _ (own_w 40 rfl)) (hw _ (own_w 90 rfl)) (by decide) (rmPut_4_1 l Z av0 hw [] b1 kb1 c1 c0 T7.heap n0 Zk7 V7 ge_b1 f10 f11 f12) (by decide) (by decide) (g := (mkF m 20 #[rv a0, iv 1, iv 4, rv b1, iv 1] [(.int c1), (.int 1), (.ref b1)])) rfl (by rw [hml]; rfl) (argsL := [(.ref b1), (.int 1), (.int c1)]) (rest := []) (lenOf pd__BII_V rfl) rfl (hb hby d17_20) rfl e7 (by decide : 1 + 0 ≤ _) (by decide : 8 + 0 ≤ _)
  obtain ⟨rfl, N13q, K13, V13⟩ := hQ13
  have N13 := Fr.app N7 N13q
  have e13 : T13.heap = T13.heap := rfl
  have Zk13 : n0 ≤ T13.heap.size := Nat.le_trans Zk7 K13.1
  have Kk13 : Keep h0 T13.heap [] := Kk7.trans K13 (allS (Or.inr sz_b1) all0)
  have f14 := (f8.keep K13 (ninS ne_a0_b1 nin0))
  obtain ⟨cl15, Ar15, qk15, Sz15, Ng15, Hs15, Gs15⟩ := id f14
  have hin15 : ¬ ((2 : Int32) < 0 ∨ cl15.slots.size ≤ ((2 : Int32)).toNatClampNeg) := inb_of Sz15 ⟨by decide, by decide⟩
  have hat15 : cl15.slots[((2 : Int32)).toNatClampNeg]? = some (.int c2) := Hs15.at hin15 rfl
  have f16 := (own_stak f10 K13 (allS (own_arns V7) all0))
  have f17 := (own_stak f11 K13 (allS (own_arns V7) all0))
  have f18 := (own_stak f12 K13 (allS (own_arns V7) all0))
  obtain ⟨_, T19, Lc19, X19, hQ19, st19⟩ := own_callS (W := 0) (y := mN19) X13 hx hZ hown (hw _ (own_w 88 rfl)) (hw _ (own_w 89 rfl)) (hw _ (own_w 40 rfl)) (hw _ (own_w 90 rfl)) (by decide) (rmPut_4_2 l Z av0 hw [] b1 kb1 c2 c0 c1 T13.heap n0 Zk13 V13 ge_b1 f16 f17 f18) (by decide) (by decide) (g := (mkF m 20 #[rv a0, iv 2, iv 4, rv b1, iv 2] [(.int c2), (.int 2), (.ref b1)])) rfl (by rw [hml]; rfl) (argsL := [(.ref b1), (.int 2), (.int c2)]) (rest := []) (lenOf pd__BII_V rfl) rfl (hb hby d17_20) rfl e13 (by decide : 1 + 0 ≤ _) (by decide : 8 + 0 ≤ _)
  obtain ⟨rfl, N19q, K19, V19⟩ := hQ19
  have N19 := Fr.app N13 N19q
  have e19 : T19.heap = T19.heap := rfl
  have Zk19 : n0 ≤ T19.heap.size := Nat.le_trans Zk13 K19.1
  have Kk19 : Keep h0 T19.heap [] := Kk13.trans K19 (allS (Or.inr sz_b1) all0)
  have f20 := (f14.keep K19 (ninS ne_a0_b1 nin0))
  obtain ⟨cl21, Ar21, qk21, Sz21, Ng21, Hs21, Gs21⟩ := id f20
  have hin21 : ¬ ((3 : Int32) < 0 ∨ cl21.slots.size ≤ ((3 : Int32)).toNatClampNeg) := inb_of Sz21 ⟨by decide, by decide⟩
  have hat21 : cl21.slots[((3 : Int32)).toNatClampNeg]? = some (.int c3) := Hs21.at hin21 rfl
  have f22 := (own_stak f16 K19 (allS (own_arns V13) all0))
  have f23 := (own_stak f17 K19 (allS (own_arns V13) all0))
  have f24 := (own_stak f18 K19 (allS (own_arns V13) all0))
  obtain ⟨_, T25, Lc25, X25, hQ25, st25⟩ := own_callS (W := 0) (y := mN19) X19 hx hZ hown (hw _ (own_w 88 rfl)) (hw _ (own_w 89 rfl)) (hw _ (own_w 40 rfl)) (hw _ (own_w 90 rfl)) (by decide) (rmPut_4_3 l Z av0 hw [] b1 kb1 c3 c0 c1 c2 T19.heap n0 Zk19 V19 ge_b1 f22 f23 f24) (by decide) (by decide) (g := (mkF m 20 #[rv a0, iv 3, iv 4, rv b1, iv 3] [(.int c3), (.int 3), (.ref b1)])) rfl (by rw [hml]; rfl) (argsL := [(.ref b1), (.int 3), (.int c3)]) (rest := []) (lenOf pd__BII_V rfl) rfl (hb hby d17_20) rfl e19 (by decide : 1 + 0 ≤ _) (by decide : 8 + 0 ≤ _)
  obtain ⟨rfl, N25q, K25, V25⟩ := hQ25
  have N25 := Fr.app N19 N25q
  have e25 : T25.heap = T25.heap := rfl
  have Zk25 : n0 ≤ T25.heap.size := Nat.le_trans Zk19 K25.1
  have Kk25 : Keep h0 T25.heap [] := Kk19.trans K25 (allS (Or.inr sz_b1) all0)
  have S26 : ∀ t, oS p e below T25 (mkF m 33 #[rv a0, iv 4, iv 4, rv b1, iv 4] [(.ref b1)]) t → oS p e below s₁ (mkF m 0 #[rv a0, iv 0, iv 4, .unset, .unset] []) t := fun t k => id (by
    show oS p e below s₁ (mkF m 0 #[rv a0, iv 0, iv 4, .unset, .unset] []) _
    refine XS.iloadN X0.here hx rfl (hb hby d17_0) rfl ?_
    refine st1 _ ?_
    refine XS.astoreN X1.here hx rfl (hb hby d17_4) rfl rfl (l' := #[rv a0, iv 0, iv 4, rv b1, .unset]) rfl ?_
    refine XT.iconstV X1.here hx rfl (0 : Int32) (hb hby d17_5) (by decide) ?_
    refine XS.istore X1.here hx rfl (hb hby d17_6) rfl (l' := #[rv a0, iv 0, iv 4, rv b1, iv 0]) rfl ?_
    refine XS.iload X1.here hx rfl (hb hby d17_8) rfl ?_
    refine XS.iloadN X1.here hx rfl (hb hby d17_10) rfl ?_
    refine XS.icmpNo X1.here hx rfl (hb hby d17_11) rfl (XT.ii_ge_f (by decide)) ?_
    refine XS.aloadN X1.here hx rfl (hb hby d17_14) rfl rfl ?_
    refine XS.iload X1.here hx rfl (hb hby d17_15) rfl ?_
    refine XS.aloadN X1.here hx rfl (hb hby d17_17) rfl rfl ?_
    refine XS.iloadN X1.here hx rfl (hb hby d17_18) rfl ?_
    refine X1.caload hx (j := (0 : Int32)) (v := (.int c0)) (by rw [e1]; exact Ar3.1) (State.isArrayOf_alike hZ.alike Ar3.2.1) Ar3.2.2 hin3 hat3 (g := (mkF m 19 #[rv a0, iv 0, iv 4, rv b1, iv 0] [(.int 0), (.ref a0), (.int 0), (.ref b1)])) rfl rfl (hb hby d17_19) _ ?_
    refine st7 _ ?_
    refine XT.iincV X7.here hx rfl (1 : Int32) (hb hby d17_23) (by decide) rfl (l' := #[rv a0, iv 1, iv 4, rv b1, iv 0]) rfl ?_
    refine XT.iincV X7.here hx rfl (1 : Int32) (hb hby d17_26) (by decide) rfl (l' := #[rv a0, iv 1, iv 4, rv b1, iv 1]) rfl ?_
    refine XS.goto X7.here hx rfl (pc0 := 29) (pc' := 8) rfl (hb hby d17_29) (by decide) (by decide) ?_
    refine XS.iload X7.here hx rfl (hb hby d17_8) rfl ?_
    refine XS.iloadN X7.here hx rfl (hb hby d17_10) rfl ?_
    refine XS.icmpNo X7.here hx rfl (hb hby d17_11) rfl (XT.ii_ge_f (by decide)) ?_
    show oS p e below T7 (mkF m 14 #[rv a0, iv 1, iv 4, rv b1, iv 1] []) _
    refine XS.aloadN X7.here hx rfl (hb hby d17_14) rfl rfl ?_
    refine XS.iload X7.here hx rfl (hb hby d17_15) rfl ?_
    refine XS.aloadN X7.here hx rfl (hb hby d17_17) rfl rfl ?_
    refine XS.iloadN X7.here hx rfl (hb hby d17_18) rfl ?_
    refine X7.caload hx (j := (1 : Int32)) (v := (.int c1)) (by rw [e7]; exact Ar9.1) (State.isArrayOf_alike hZ.alike Ar9.2.1) Ar9.2.2 hin9 hat9 (g := (mkF m 19 #[rv a0, iv 1, iv 4, rv b1, iv 1] [(.int 1), (.ref a0), (.int 1), (.ref b1)])) rfl rfl (hb hby d17_19) _ ?_
    refine st13 _ ?_
    refine XT.iincV X13.here hx rfl (1 : Int32) (hb hby d17_23) (by decide) rfl (l' := #[rv a0, iv 2, iv 4, rv b1, iv 1]) rfl ?_
    refine XT.iincV X13.here hx rfl (1 : Int32) (hb hby d17_26) (by decide) rfl (l' := #[rv a0, iv 2, iv 4, rv b1, iv 2]) rfl ?_
    refine XS.goto X13.here hx rfl (pc0 := 29) (pc' := 8) rfl (hb hby d17_29) (by decide) (by decide) ?_
    refine XS.iload X13.here hx rfl (hb hby d17_8) rfl ?_
    refine XS.iloadN X13.here hx rfl (hb hby d17_10) rfl ?_
    refine XS.icmpNo X13.here hx rfl (hb hby d17_11) rfl (XT.ii_ge_f (by decide)) ?_
    refine XS.aloadN X13.here hx rfl (hb hby d17_14) rfl rfl ?_
    refine XS.iload X13.here hx rfl (hb hby d17_15) rfl ?_
    refine XS.aloadN X13.here hx rfl (hb hby d17_17) rfl rfl ?_
    refine XS.iloadN X13.here hx rfl (hb hby d17_18) rfl ?_
    refine X13.caload hx (j := (2 : Int32)) (v := (.int c2)) (by rw [e13]; exact Ar15.1) (State.isArrayOf_alike hZ.alike Ar15.2.1) Ar15.2.2 hin15 hat15 (g := (mkF m 19 #[rv a0, iv 2, iv 4, rv b1, iv 2] [(.int 2), (.ref a0), (.int 2), (.ref b1)])) rfl rfl (hb hby d17_19) _ ?_
    refine st19 _ ?_
    refine XT.iincV X19.here hx rfl (1 : Int32) (hb hby d17_23) (by decide) rfl (l' := #[rv a0, iv 3, iv 4, rv b1, iv 2]) rfl ?_
    refine XT.iincV X19.here hx rfl (1 : Int32) (hb hby d17_26) (by decide) rfl (l' := #[rv a0, iv 3, iv 4, rv b1, iv 3]) rfl ?_
    show oS p e below T19 (mkF m 29 #[rv a0, iv 3, iv 4, rv b1, iv 3] []) _
    refine XS.goto X19.here hx rfl (pc0 := 29) (pc' := 8) rfl (hb hby d17_29) (by decide) (by decide) ?_
    refine XS.iload X19.here hx rfl (hb hby d17_8) rfl ?_
    refine XS.iloadN X19.here hx rfl (hb hby d17_10) rfl ?_
    refine XS.icmpNo X19.here hx rfl (hb hby d17_11) rfl (XT.ii_ge_f (by decide)) ?_
    refine XS.aloadN X19.here hx rfl (hb hby d17_14) rfl rfl ?_
    refine XS.iload X19.here hx rfl (hb hby d17_15) rfl ?_
    refine XS.aloadN X19.here hx rfl (hb hby d17_17) rfl rfl ?_
    refine XS.iloadN X19.here hx rfl (hb hby d17_18) rfl ?_
    refine X19.caload hx (j := (3 : Int32)) (v := (.int c3)) (by rw [e19]; exact Ar21.1) (State.isArrayOf_alike hZ.alike Ar21.2.1) Ar21.2.2 hin21 hat21 (g := (mkF m 19 #[rv a0, iv 3, iv 4, rv b1, iv 3] [(.int 3), (.ref a0), (.int 3), (.ref b1)])) rfl rfl (hb hby d17_19) _ ?_
    refine st25 _ ?_
    refine XT.iincV X25.here hx rfl (1 : Int32) (hb hby d17_23) (by decide) rfl (l' := #[rv a0, iv 4, iv 4, rv b1, iv 3]) rfl ?_
    refine XT.iincV X25.here hx rfl (1 : Int32) (hb hby d17_26) (by decide) rfl (l' := #[rv a0, iv 4, iv 4, rv b1, iv 4]) rfl ?_
    refine XS.goto X25.here hx rfl (pc0 := 29) (pc' := 8) rfl (hb hby d17_29) (by decide) (by decide) ?_
    refine XS.iload X25.here hx rfl (hb hby d17_8) rfl ?_
    refine XS.iloadN X25.here hx rfl (hb hby d17_10) rfl ?_
    refine XS.icmpYes X25.here hx rfl (pc0 := 11) (pc' := 32) rfl (hb hby d17_11) rfl (XT.ii_ge_t (by decide)) (by decide) (by decide) ?_
    refine XS.aloadN X25.here hx rfl (hb hby d17_32) rfl rfl ?_
    exact k)
  obtain ⟨fs, hr, hrun, hended, hW, hsame⟩ := X25.leave (v := some (.ref b1)) (fun h => by rw [Bd.returns] at h; cases h)
  refine ⟨_, _, pre0 _ (S26 _ ?_), hrun, hended, _, _, rfl, ?_, ⟨_, rfl⟩, hW, hsame.mono (by decide) (by decide)⟩
  · jvm_step X25.here [X25.here.top, hx, (hb hby d17_33), X25.method', Bd.returns, Value.isRef, FieldType.isReference]
    first | (intro acts; rw [hr _ acts rfl rfl rfl]) | rw [hr _ _ rfl rfl rfl]
    exact Steps.refl _
  · show QrmTb_4 Z a0 ka c0 c1 c2 c3 h0 n0 _ T25.heap _
    rw [e25]
    exact ⟨_, _, rfl, N25, sz_b1, Kk25, V25⟩
def QrmCp3_4_0 (Z : State) (a0 : Addr) (ka : ClassId) (c0 : Int32) (c1 : Int32) (c2 : Int32) (c3 : Int32) (h0 : Heap) (n0 : Nat) (v : Option Value) (h : Heap) (L : List Loc) : Prop := ∃ (b : Addr) (k : ClassId), v = some (.ref b) ∧ Fr n0 L ∧ h0.size ≤ b ∧ Keep h0 h [] ∧ Arv Z h b k .byte (8 : Int32) [(.int (own_lo c0)), (.int (own_hi c0)), (.int (own_lo c1)), (.int (own_hi c1)), (.int (own_lo c2)), (.int (own_hi c2)), (.int (own_lo c3)), (.int (own_hi c3))] (.int (0 : Int32))
set_option maxRecDepth 65536 in
set_option maxHeartbeats 40000000 in
theorem rmCp3_4_0 (l : Launch) (Z : State) (av0 : Array Value) (hw : ∀ d ∈ tables_1, d.before av0 Z = true) (ws : List Jvm.Cond) (a0 : Addr) (ka : ClassId) (c0 : Int32) (c1 : Int32) (c2 : Int32) (c3 : Int32) (h0 : Heap) (n0 : Nat) (Z0 : n0 ≤ h0.size) (hA : Arv Z h0 a0 ka .char (4 : Int32) [(.int c0), (.int c1), (.int c2), (.int c3)] (.int (0 : Int32))) (hbg : (255 : Int32) < c0) (hg : 0 ≤ c0.toInt ∧ c0.toInt < 65536) (sA : Sta Z h0 "java/lang/StringUTF16" "$assertionsDisabled" "Z" (.int (1 : Int32))) (sH : Sta Z h0 "java/lang/StringUTF16" "HI_BYTE_SHIFT" "I" (.int (0 : Int32))) (sL : Sta Z h0 "java/lang/StringUTF16" "LO_BYTE_SHIFT" "I" (.int (8 : Int32))) :
    own_Met l mN21 jdk_52_method_16_code 6 (some (.array .byte)) ws ({ frames := 3, cells := 2, slots := 12, locals := 40 } : Room) #[(.ref a0), (.int 0), (.int 4)] Z h0 (QrmCp3_4_0 Z a0 ka c0 c1 c2 c3 h0 n0) := by
  refine MetFree.of_bodySF (plainFor_of_name pn_StringUTF16) hisR ?_
  intro p e s m args below meth c s₁ Bd hml0 hP hK
  obtain ⟨rfl, hZ, hh⟩ := hP
  have hml : c.maxLocals = 6 := hml0
  obtain ⟨hx, hby, hown, hnm, X0, e0⟩ := own_start Bd hml0 hh
  have N0 := Fr.nil n0
  have pre0 : ∀ t, oS p e below s₁ (mkF m 0 #[rv a0, iv 0, iv 4, .unset, .unset, .unset] []) t → Steps p.tables e below (s₁.setTop (entryFrame m #[(.ref a0), (.int 0), (.int 4)] 6)) t := fun t k => castTop (by first | (simp [entryFrame, mkF, argsToLocals, Value.category]; done) | rfl) k
  obtain ⟨T1, h1, k1, X1, e1, E1, A1, st1⟩ := newP X0 hx hZ (hw _ (own_w 16 rfl)) e0 (g := (mkF m 1 #[rv a0, iv 0, iv 4, .unset, .unset, .unset] [(.int 4)])) rfl (hb hby d7_1) rfl (by decide) (cap := 4) (by decide) (by decide) (by decide) (by decide)
  obtain ⟨b1, g1⟩ : ∃ z, z = h0.size := ⟨_, rfl⟩
  rw [← g1] at A1 st1
  have ne_a0_b1 : a0 ≠ b1 := Nat.ne_of_lt (Nat.lt_of_lt_of_le hA.lt (Nat.le_of_eq g1.symm))
  have ge_b1 : n0 ≤ b1 := Nat.le_trans Z0 (Nat.le_of_eq g1.symm)
  have sz_b1 : h0.size ≤ b1 := Nat.le_of_eq g1.symm
  have Z1 : n0 ≤ h1.size := Nat.le_trans Z0 E1.1
  have K1 : Keep h0 h1 [] := (Keep.refl h0 []).ext E1
  have V1 : Arv Z h1 b1 k1 .byte (4 : Int32) [(.int (0 : Int32)), (.int (0 : Int32)), (.int (0 : Int32)), (.int (0 : Int32))] (.int (0 : Int32)) := (Arv.new A1 (by decide)).pad (pad_rep [] (.int (0 : Int32)) 4)
  have f2 := (hA.ext E1)
  obtain ⟨_, T3, Lc3, X3, hQ3, st3⟩ := own_callS (W := 0) (y := mN16) X1 hx hZ hown (hw _ (own_w 42 rfl)) (hw _ (own_w 43 rfl)) (hw _ (own_w 40 rfl)) (hw _ (own_w 44 rfl)) (by decide) (rmCp5_4_0 l Z av0 hw [] a0 b1 ka k1 c0 c1 c2 c3 h1 n0 Z1 f2 V1 ne_a0_b1 ge_b1 hbg) (by decide) (by decide) (g := (mkF m 9 #[rv a0, iv 0, iv 4, rv b1, .unset, .unset] [(.int 4), (.int 0), (.ref b1), (.int 0), (.ref a0)])) rfl (by rw [hml]; rfl) (argsL := [(.ref a0), (.int 0), (.ref b1), (.int 0), (.int 4)]) (rest := []) (lenOf pd__CI_BII_I rfl) rfl (hb hby d7_9) rfl e1 (by decide : 1 + 0 ≤ _) (by decide : 4 + 0 ≤ _)
  obtain ⟨rfl, N3q, K3, V3⟩ := hQ3
  have N3 := Fr.app N0 N3q
  have e3 : T3.heap = T3.heap := rfl
  have Zk3 : n0 ≤ T3.heap.size := Nat.le_trans Z1 K3.1
  have Kk3 : Keep h0 T3.heap [] := K1.trans K3 (allS (Or.inr sz_b1) all0)
  have f4 := (f2.keep K3 (ninS ne_a0_b1 nin0))
  have f5 := (own_stak (sA.ext E1) K3 (allS (own_arns V1) all0))
  have f6 := (own_stak (sH.ext E1) K3 (allS (own_arns V1) all0))
  have f7 := (own_stak (sL.ext E1) K3 (allS (own_arns V1) all0))
  obtain ⟨_, T8, Lc8, X8, hQ8, st8⟩ := own_callS (W := 0) (y := mN20) X3 hx hZ hown (hw _ (own_w 78 rfl)) (hw _ (own_w 79 rfl)) (hw _ (own_w 40 rfl)) (hw _ (own_w 80 rfl)) (by decide) (rmTb_4 l Z av0 hw [] a0 ka c0 c1 c2 c3 T3.heap n0 Zk3 f4 f5 f6 f7) (by decide) (by decide) (g := (mkF m 23 #[rv a0, iv 0, iv 4, rv b1, iv 0, .unset] [(.int 4), (.int 0), (.ref a0)])) rfl (by rw [hml]; rfl) (argsL := [(.ref a0), (.int 0), (.int 4)]) (rest := []) (lenOf pd__CII_B rfl) rfl (hb hby d7_23) rfl e3 (by decide : 1 + 1 ≤ _) (by decide : 4 + 8 ≤ _)
  obtain ⟨b8, kb8, rfl, N8q, gb8, K8, V8⟩ := hQ8
  have N8 := Fr.app N3 N8q
  have e8 : T8.heap = T8.heap := rfl
  have ne_a0_b8 : a0 ≠ b8 := Nat.ne_of_lt (Nat.lt_of_lt_of_le f4.lt gb8)
  have ne_b1_b8 : b1 ≠ b8 := Nat.ne_of_lt (Nat.lt_of_lt_of_le V3.lt gb8)
  have ge_b8 : n0 ≤ b8 := Nat.le_trans Zk3 gb8
  have sz_b8 : h0.size ≤ b8 := Nat.le_trans Kk3.1 gb8
  have Zk8 : n0 ≤ T8.heap.size := Nat.le_trans Zk3 K8.1
  have Kk8 : Keep h0 T8.heap [] := Kk3.trans K8 all0
  have f9 := (own_stak f5 K8 all0)
  have f10 := (own_stak f6 K8 all0)
  have f11 := (own_stak f7 K8 all0)
  obtain ⟨_, T12, Lc12, X12, hQ12, st12⟩ := own_callS (W := 0) (y := mN12) X8 hx hZ hown (hw _ (own_w 94 rfl)) (hw _ (own_w 95 rfl)) (hw _ (own_w 40 rfl)) (hw _ (own_w 96 rfl)) (by decide) (rmGc l Z av0 hw [] b8 kb8 (8 : Int32) [(.int (own_lo c0)), (.int (own_hi c0)), (.int (own_lo c1)), (.int (own_hi c1)), (.int (own_lo c2)), (.int (own_hi c2)), (.int (own_lo c3)), (.int (own_hi c3))] (0 : Int32) (own_lo c0) (own_hi c0) T8.heap n0 Zk8 V8 f9 f10 f11 (by decide) (by decide) rfl rfl) (by decide) (by decide) (g := (mkF m 32 #[rv a0, iv 0, iv 4, rv b1, iv 0, rv b8] [(.int 0), (.ref b8)])) rfl (by rw [hml]; rfl) (argsL := [(.ref b8), (.int 0)]) (rest := []) (lenOf pd__BI_C rfl) rfl (hb hby d7_32) rfl e8 (by decide : 2 + 0 ≤ _) (by decide : 12 + 0 ≤ _)
  obtain ⟨rfl, N12q, hh12⟩ := hQ12
  have N12 := Fr.app N8 N12q
  have e12 : T12.heap = T8.heap := hh12
  have S13 : ∀ t, oS p e below T12 (mkF m 56 #[rv a0, iv 0, iv 4, rv b1, iv 0, rv b8] [(.ref b8)]) t → oS p e below s₁ (mkF m 0 #[rv a0, iv 0, iv 4, .unset, .unset, .unset] []) t := fun t k => id (by
    show oS p e below s₁ (mkF m 0 #[rv a0, iv 0, iv 4, .unset, .unset, .unset] []) _
    refine XS.iloadN X0.here hx rfl (hb hby d7_0) rfl ?_
    refine st1 _ ?_
    refine XS.astoreN X1.here hx rfl (hb hby d7_3) rfl rfl (l' := #[rv a0, iv 0, iv 4, rv b1, .unset, .unset]) rfl ?_
    refine XS.aloadN X1.here hx rfl (hb hby d7_4) rfl rfl ?_
    refine XS.iloadN X1.here hx rfl (hb hby d7_5) rfl ?_
    refine XS.aloadN X1.here hx rfl (hb hby d7_6) rfl rfl ?_
    refine XT.iconstV X1.here hx rfl (0 : Int32) (hb hby d7_7) (by decide) ?_
    refine XS.iloadN X1.here hx rfl (hb hby d7_8) rfl ?_
    refine st3 _ ?_
    refine XS.istore X3.here hx rfl (hb hby d7_12) rfl (l' := #[rv a0, iv 0, iv 4, rv b1, iv 0, .unset]) rfl ?_
    refine XS.iload X3.here hx rfl (hb hby d7_14) rfl ?_
    refine XS.iloadN X3.here hx rfl (hb hby d7_16) rfl ?_
    refine XS.icmpNo X3.here hx rfl (hb hby d7_17) rfl (XT.ii_eq_f (by decide)) ?_
    refine XS.aloadN X3.here hx rfl (hb hby d7_20) rfl rfl ?_
    refine XS.iloadN X3.here hx rfl (hb hby d7_21) rfl ?_
    refine XS.iloadN X3.here hx rfl (hb hby d7_22) rfl ?_
    refine st8 _ ?_
    refine XS.astore X8.here hx rfl (hb hby d7_26) rfl rfl (l' := #[rv a0, iv 0, iv 4, rv b1, iv 0, rv b8]) rfl ?_
    refine XS.aload X8.here hx rfl (hb hby d7_28) rfl rfl ?_
    refine XS.iload X8.here hx rfl (hb hby d7_30) rfl ?_
    show oS p e below T8 (mkF m 32 #[rv a0, iv 0, iv 4, rv b1, iv 0, rv b8] [(.int 0), (.ref b8)]) _
    refine st12 _ ?_
    refine XT.sipushV X12.here hx rfl (255 : Int32) (hb hby d7_35) (by decide) ?_
    refine XS.icmpYes X12.here hx rfl (pc0 := 38) (pc' := 54) rfl (hb hby d7_38) rfl (XT.ii_gt_t (by rw [own_gcv c0 hg.1 hg.2]; exact hbg)) (by decide) (by decide) ?_
    refine XS.aload X12.here hx rfl (hb hby d7_54) rfl rfl ?_
    exact k)
  obtain ⟨fs, hr, hrun, hended, hW, hsame⟩ := X12.leave (v := some (.ref b8)) (fun h => by rw [Bd.returns] at h; cases h)
  refine ⟨_, _, pre0 _ (S13 _ ?_), hrun, hended, _, _, rfl, ?_, ⟨_, rfl⟩, hW, hsame.mono (by decide) (by decide)⟩
  · jvm_step X12.here [X12.here.top, hx, (hb hby d7_56), X12.method', Bd.returns, Value.isRef, FieldType.isReference]
    first | (intro acts; rw [hr _ acts rfl rfl rfl]) | rw [hr _ _ rfl rfl rfl]
    exact Steps.refl _
  · show QrmCp3_4_0 Z a0 ka c0 c1 c2 c3 h0 n0 _ T12.heap _
    rw [e12]
    exact ⟨_, _, rfl, N12, sz_b8, Kk8, V8⟩
def QrmCp5_4_1 (Z : State) (a0 : Addr) (a2 : Addr) (ka : ClassId) (kb : ClassId) (c0 : Int32) (c1 : Int32) (c2 : Int32) (c3 : Int32) (h0 : Heap) (n0 : Nat) (v : Option Value) (h : Heap) (L : List Loc) : Prop := v = some (.int (1 : Int32)) ∧ Fr n0 L ∧ Keep h0 h [a2] ∧ Arv Z h a2 kb .byte (4 : Int32) [(.int (own_b c0)), (.int (0 : Int32)), (.int (0 : Int32)), (.int (0 : Int32))] (.int (0 : Int32))
set_option maxRecDepth 65536 in
set_option maxHeartbeats 40000000 in
theorem rmCp5_4_1 (l : Launch) (Z : State) (av0 : Array Value) (hw : ∀ d ∈ tables_1, d.before av0 Z = true) (ws : List Jvm.Cond) (a0 : Addr) (a2 : Addr) (ka : ClassId) (kb : ClassId) (c0 : Int32) (c1 : Int32) (c2 : Int32) (c3 : Int32) (h0 : Heap) (n0 : Nat) (Z0 : n0 ≤ h0.size) (hA : Arv Z h0 a0 ka .char (4 : Int32) [(.int c0), (.int c1), (.int c2), (.int c3)] (.int (0 : Int32))) (hB : Arv Z h0 a2 kb .byte (4 : Int32) [(.int (0 : Int32)), (.int (0 : Int32)), (.int (0 : Int32)), (.int (0 : Int32))] (.int (0 : Int32))) (hne : a0 ≠ a2) (hge : n0 ≤ a2) (hc0 : ¬ (255 : Int32) < c0) (hbg : (255 : Int32) < c1) :
    own_Met l mN16 jdk_52_method_21_code 7 (some .int) ws ({ frames := 0, cells := 0, slots := 0, locals := 0 } : Room) #[(.ref a0), (.int 0), (.ref a2), (.int 0), (.int 4)] Z h0 (QrmCp5_4_1 Z a0 a2 ka kb c0 c1 c2 c3 h0 n0) := by
  refine MetFree.of_bodySF (plainFor_of_name pn_StringUTF16) hisR ?_
  intro p e s m args below meth c s₁ Bd hml0 hP hK
  obtain ⟨rfl, hZ, hh⟩ := hP
  have hml : c.maxLocals = 7 := hml0
  obtain ⟨hx, hby, hown, hnm, X0, e0⟩ := own_start Bd hml0 hh
  have N0 := Fr.nil n0
  have pre0 : ∀ t, oS p e below s₁ (mkF m 0 #[rv a0, iv 0, rv a2, iv 0, iv 4, .unset, .unset] []) t → Steps p.tables e below (s₁.setTop (entryFrame m #[(.ref a0), (.int 0), (.ref a2), (.int 0), (.int 4)] 7)) t := fun t k => castTop (by first | (simp [entryFrame, mkF, argsToLocals, Value.category]; done) | rfl) k
  obtain ⟨cl1, Ar1, qk1, Sz1, Ng1, Hs1, Gs1⟩ := id hA
  have hin1 : ¬ ((0 : Int32) < 0 ∨ cl1.slots.size ≤ ((0 : Int32)).toNatClampNeg) := inb_of Sz1 ⟨by decide, by decide⟩
  have hat1 : cl1.slots[((0 : Int32)).toNatClampNeg]? = some (.int c0) := Hs1.at hin1 rfl
  obtain ⟨cl2, Ar2, qk2, Sz2, Ng2, Hs2, Gs2⟩ := id hB
  have hin2 : ¬ ((0 : Int32) < 0 ∨ cl2.slots.size ≤ ((0 : Int32)).toNatClampNeg) := inb_of Sz2 ⟨by decide, by decide⟩
  obtain ⟨T3, h3, X3, e3, W3, st3⟩ := stB X0 hx hZ e0 Ar2 (j := (0 : Int32)) hin2 (g := (mkF m 31 #[rv a0, iv 0, rv a2, iv 0, iv 4, iv 0, iv c0] [(.int (c0).toInt8.toInt32), (.int 0), (.ref a2)])) rfl rfl (hb hby d8_31)
  have N3 := Fr.snoc X3 N0 hge
  have Z3 : n0 ≤ h3.size := Nat.le_trans Z0 (Nat.le_of_eq W3.size.symm)
  have K3 : Keep h0 h3 [a2] := (Keep.refl h0 [a2]).wr W3 (Or.inl (List.mem_of_getElem? (i := 0) rfl))
  have V3 : Arv Z h3 a2 kb .byte (4 : Int32) [(.int (nar .byte (c0).toInt8.toInt32)), (.int (0 : Int32)), (.int (0 : Int32)), (.int (0 : Int32))] (.int (0 : Int32)) := Arv.set Ar2 qk2 Sz2 Ng2 Hs2 Gs2 (fits_nar_byte _) W3 0 rfl (Nat.le_of_ble_eq_true rfl)
  have f4 := (hA.other W3 hne)
  obtain ⟨cl5, Ar5, qk5, Sz5, Ng5, Hs5, Gs5⟩ := id f4
  have hin5 : ¬ ((1 : Int32) < 0 ∨ cl5.slots.size ≤ ((1 : Int32)).toNatClampNeg) := inb_of Sz5 ⟨by decide, by decide⟩
  have hat5 : cl5.slots[((1 : Int32)).toNatClampNeg]? = some (.int c1) := Hs5.at hin5 rfl
  have S6 : ∀ t, oS p e below T3 (mkF m 25 #[rv a0, iv 1, rv a2, iv 1, iv 4, iv 1, iv c1] [(.int 1)]) t → oS p e below s₁ (mkF m 0 #[rv a0, iv 0, rv a2, iv 0, iv 4, .unset, .unset] []) t := fun t k => id (by
    show oS p e below s₁ (mkF m 0 #[rv a0, iv 0, rv a2, iv 0, iv 4, .unset, .unset] []) _
    refine XT.iconstV X0.here hx rfl (0 : Int32) (hb hby d8_0) (by decide) ?_
    refine XS.istore X0.here hx rfl (hb hby d8_1) rfl (l' := #[rv a0, iv 0, rv a2, iv 0, iv 4, iv 0, .unset]) rfl ?_
    refine XS.iload X0.here hx rfl (hb hby d8_3) rfl ?_
    refine XS.iload X0.here hx rfl (hb hby d8_5) rfl ?_
    refine XS.icmpNo X0.here hx rfl (hb hby d8_7) rfl (XT.ii_ge_f (by decide)) ?_
    refine XS.aloadN X0.here hx rfl (hb hby d8_10) rfl rfl ?_
    refine XS.iloadN X0.here hx rfl (hb hby d8_11) rfl ?_
    refine X0.caload hx (j := (0 : Int32)) (v := (.int c0)) (by rw [e0]; exact Ar1.1) (State.isArrayOf_alike hZ.alike Ar1.2.1) Ar1.2.2 hin1 hat1 (g := (mkF m 12 #[rv a0, iv 0, rv a2, iv 0, iv 4, iv 0, .unset] [(.int 0), (.ref a0)])) rfl rfl (hb hby d8_12) _ ?_
    refine XS.istore X0.here hx rfl (hb hby d8_13) rfl (l' := #[rv a0, iv 0, rv a2, iv 0, iv 4, iv 0, iv c0]) rfl ?_
    refine XS.iload X0.here hx rfl (hb hby d8_15) rfl ?_
    refine XT.sipushV X0.here hx rfl (255 : Int32) (hb hby d8_17) (by decide) ?_
    refine XS.icmpYes X0.here hx rfl (pc0 := 20) (pc' := 26) rfl (hb hby d8_20) rfl (XT.ii_le_t hc0) (by decide) (by decide) ?_
    refine XS.aloadN X0.here hx rfl (hb hby d8_26) rfl rfl ?_
    refine XS.iloadN X0.here hx rfl (hb hby d8_27) rfl ?_
    refine XS.iload X0.here hx rfl (hb hby d8_28) rfl ?_
    refine XT.i2b X0.here hx rfl (hb hby d8_30) rfl ?_
    refine st3 _ ?_
    refine XT.iincV X3.here hx rfl (1 : Int32) (hb hby d8_32) (by decide) rfl (l' := #[rv a0, iv 1, rv a2, iv 0, iv 4, iv 0, iv c0]) rfl ?_
    refine XT.iincV X3.here hx rfl (1 : Int32) (hb hby d8_35) (by decide) rfl (l' := #[rv a0, iv 1, rv a2, iv 1, iv 4, iv 0, iv c0]) rfl ?_
    refine XT.iincV X3.here hx rfl (1 : Int32) (hb hby d8_38) (by decide) rfl (l' := #[rv a0, iv 1, rv a2, iv 1, iv 4, iv 1, iv c0]) rfl ?_
    show oS p e below T3 (mkF m 41 #[rv a0, iv 1, rv a2, iv 1, iv 4, iv 1, iv c0] []) _
    refine XS.goto X3.here hx rfl (pc0 := 41) (pc' := 3) rfl (hb hby d8_41) (by decide) (by decide) ?_
    refine XS.iload X3.here hx rfl (hb hby d8_3) rfl ?_
    refine XS.iload X3.here hx rfl (hb hby d8_5) rfl ?_
    refine XS.icmpNo X3.here hx rfl (hb hby d8_7) rfl (XT.ii_ge_f (by decide)) ?_
    refine XS.aloadN X3.here hx rfl (hb hby d8_10) rfl rfl ?_
    refine XS.iloadN X3.here hx rfl (hb hby d8_11) rfl ?_
    refine X3.caload hx (j := (1 : Int32)) (v := (.int c1)) (by rw [e3]; exact Ar5.1) (State.isArrayOf_alike hZ.alike Ar5.2.1) Ar5.2.2 hin5 hat5 (g := (mkF m 12 #[rv a0, iv 1, rv a2, iv 1, iv 4, iv 1, iv c0] [(.int 1), (.ref a0)])) rfl rfl (hb hby d8_12) _ ?_
    refine XS.istore X3.here hx rfl (hb hby d8_13) rfl (l' := #[rv a0, iv 1, rv a2, iv 1, iv 4, iv 1, iv c1]) rfl ?_
    refine XS.iload X3.here hx rfl (hb hby d8_15) rfl ?_
    refine XT.sipushV X3.here hx rfl (255 : Int32) (hb hby d8_17) (by decide) ?_
    refine XS.icmpNo X3.here hx rfl (hb hby d8_20) rfl (XT.ii_le_f hbg) ?_
    refine XS.iload X3.here hx rfl (hb hby d8_23) rfl ?_
    exact k)
  obtain ⟨fs, hr, hrun, hended, hW, hsame⟩ := X3.leave (v := some (.int 1)) (fun h => by rw [Bd.returns] at h; cases h)
  refine ⟨_, _, pre0 _ (S6 _ ?_), hrun, hended, _, _, rfl, ?_, ⟨_, rfl⟩, hW, hsame.mono (by decide) (by decide)⟩
  · exact retI X3 hx Bd.returns (hb hby d8_25) hr
  · show QrmCp5_4_1 Z a0 a2 ka kb c0 c1 c2 c3 h0 n0 _ T3.heap _
    rw [e3]
    exact ⟨congrArg (fun z => some (Value.int z)) (by decide), N3, K3, V3⟩
def QrmCp3_4_1 (Z : State) (a0 : Addr) (ka : ClassId) (c0 : Int32) (c1 : Int32) (c2 : Int32) (c3 : Int32) (h0 : Heap) (n0 : Nat) (v : Option Value) (h : Heap) (L : List Loc) : Prop := ∃ (b : Addr) (k : ClassId), v = some (.ref b) ∧ Fr n0 L ∧ h0.size ≤ b ∧ Keep h0 h [] ∧ Arv Z h b k .byte (8 : Int32) [(.int (own_lo c0)), (.int (own_hi c0)), (.int (own_lo c1)), (.int (own_hi c1)), (.int (own_lo c2)), (.int (own_hi c2)), (.int (own_lo c3)), (.int (own_hi c3))] (.int (0 : Int32))
set_option maxRecDepth 65536 in
set_option maxHeartbeats 40000000 in
theorem rmCp3_4_1 (l : Launch) (Z : State) (av0 : Array Value) (hw : ∀ d ∈ tables_1, d.before av0 Z = true) (ws : List Jvm.Cond) (a0 : Addr) (ka : ClassId) (c0 : Int32) (c1 : Int32) (c2 : Int32) (c3 : Int32) (h0 : Heap) (n0 : Nat) (Z0 : n0 ≤ h0.size) (hA : Arv Z h0 a0 ka .char (4 : Int32) [(.int c0), (.int c1), (.int c2), (.int c3)] (.int (0 : Int32))) (hc0 : ¬ (255 : Int32) < c0) (hbg : (255 : Int32) < c1) (hg : 0 ≤ c1.toInt ∧ c1.toInt < 65536) (sA : Sta Z h0 "java/lang/StringUTF16" "$assertionsDisabled" "Z" (.int (1 : Int32))) (sH : Sta Z h0 "java/lang/StringUTF16" "HI_BYTE_SHIFT" "I" (.int (0 : Int32))) (sL : Sta Z h0 "java/lang/StringUTF16" "LO_BYTE_SHIFT" "I" (.int (8 : Int32))) :
    own_Met l mN21 jdk_52_method_16_code 6 (some (.array .byte)) ws ({ frames := 3, cells := 2, slots := 12, locals := 40 } : Room) #[(.ref a0), (.int 0), (.int 4)] Z h0 (QrmCp3_4_1 Z a0 ka c0 c1 c2 c3 h0 n0) := by
  refine MetFree.of_bodySF (plainFor_of_name pn_StringUTF16) hisR ?_
  intro p e s m args below meth c s₁ Bd hml0 hP hK
  obtain ⟨rfl, hZ, hh⟩ := hP
  have hml : c.maxLocals = 6 := hml0
  obtain ⟨hx, hby, hown, hnm, X0, e0⟩ := own_start Bd hml0 hh
  have N0 := Fr.nil n0
  have pre0 : ∀ t, oS p e below s₁ (mkF m 0 #[rv a0, iv 0, iv 4, .unset, .unset, .unset] []) t → Steps p.tables e below (s₁.setTop (entryFrame m #[(.ref a0), (.int 0), (.int 4)] 6)) t := fun t k => castTop (by first | (simp [entryFrame, mkF, argsToLocals, Value.category]; done) | rfl) k
  obtain ⟨T1, h1, k1, X1, e1, E1, A1, st1⟩ := newP X0 hx hZ (hw _ (own_w 16 rfl)) e0 (g := (mkF m 1 #[rv a0, iv 0, iv 4, .unset, .unset, .unset] [(.int 4)])) rfl (hb hby d7_1) rfl (by decide) (cap := 4) (by decide) (by decide) (by decide) (by decide)
  obtain ⟨b1, g1⟩ : ∃ z, z = h0.size := ⟨_, rfl⟩
  rw [← g1] at A1 st1
  have ne_a0_b1 : a0 ≠ b1 := Nat.ne_of_lt (Nat.lt_of_lt_of_le hA.lt (Nat.le_of_eq g1.symm))
  have ge_b1 : n0 ≤ b1 := Nat.le_trans Z0 (Nat.le_of_eq g1.symm)
  have sz_b1 : h0.size ≤ b1 := Nat.le_of_eq g1.symm
  have Z1 : n0 ≤ h1.size := Nat.le_trans Z0 E1.1
  have K1 : Keep h0 h1 [] := (Keep.refl h0 []).ext E1
  have V1 : Arv Z h1 b1 k1 .byte (4 : Int32) [(.int (0 : Int32)), (.int (0 : Int32)), (.int (0 : Int32)), (.int (0 : Int32))] (.int (0 : Int32)) := (Arv.new A1 (by decide)).pad (pad_rep [] (.int (0 : Int32)) 4)
  have f2 := (hA.ext E1)
  obtain ⟨_, T3, Lc3, X3, hQ3, st3⟩ := own_callS (W := 0) (y := mN16) X1 hx hZ hown (hw _ (own_w 42 rfl)) (hw _ (own_w 43 rfl)) (hw _ (own_w 40 rfl)) (hw _ (own_w 44 rfl)) (by decide) (rmCp5_4_1 l Z av0 hw [] a0 b1 ka k1 c0 c1 c2 c3 h1 n0 Z1 f2 V1 ne_a0_b1 ge_b1 hc0 hbg) (by decide) (by decide) (g := (mkF m 9 #[rv a0, iv 0, iv 4, rv b1, .unset, .unset] [(.int 4), (.int 0), (.ref b1), (.int 0), (.ref a0)])) rfl (by rw [hml]; rfl) (argsL := [(.ref a0), (.int 0), (.ref b1), (.int 0), (.int 4)]) (rest := []) (lenOf pd__CI_BII_I rfl) rfl (hb hby d7_9) rfl e1 (by decide : 1 + 0 ≤ _) (by decide : 4 + 0 ≤ _)
  obtain ⟨rfl, N3q, K3, V3⟩ := hQ3
  have N3 := Fr.app N0 N3q
  have e3 : T3.heap = T3.heap := rfl
  have Zk3 : n0 ≤ T3.heap.size := Nat.le_trans Z1 K3.1
  have Kk3 : Keep h0 T3.heap [] := K1.trans K3 (allS (Or.inr sz_b1) all0)
  have f4 := (f2.keep K3 (ninS ne_a0_b1 nin0))
  have f5 := (own_stak (sA.ext E1) K3 (allS (own_arns V1) all0))
  have f6 := (own_stak (sH.ext E1) K3 (allS (own_arns V1) all0))
  have f7 := (own_stak (sL.ext E1) K3 (allS (own_arns V1) all0))
  obtain ⟨_, T8, Lc8, X8, hQ8, st8⟩ := own_callS (W := 0) (y := mN20) X3 hx hZ hown (hw _ (own_w 78 rfl)) (hw _ (own_w 79 rfl)) (hw _ (own_w 40 rfl)) (hw _ (own_w 80 rfl)) (by decide) (rmTb_4 l Z av0 hw [] a0 ka c0 c1 c2 c3 T3.heap n0 Zk3 f4 f5 f6 f7) (by decide) (by decide) (g := (mkF m 23 #[rv a0, iv 0, iv 4, rv b1, iv 1, .unset] [(.int 4), (.int 0), (.ref a0)])) rfl (by rw [hml]; rfl) (argsL := [(.ref a0), (.int 0), (.int 4)]) (rest := []) (lenOf pd__CII_B rfl) rfl (hb hby d7_23) rfl e3 (by decide : 1 + 1 ≤ _) (by decide : 4 + 8 ≤ _)
  obtain ⟨b8, kb8, rfl, N8q, gb8, K8, V8⟩ := hQ8
  have N8 := Fr.app N3 N8q
  have e8 : T8.heap = T8.heap := rfl
  have ne_a0_b8 : a0 ≠ b8 := Nat.ne_of_lt (Nat.lt_of_lt_of_le f4.lt gb8)
  have ne_b1_b8 : b1 ≠ b8 := Nat.ne_of_lt (Nat.lt_of_lt_of_le V3.lt gb8)
  have ge_b8 : n0 ≤ b8 := Nat.le_trans Zk3 gb8
  have sz_b8 : h0.size ≤ b8 := Nat.le_trans Kk3.1 gb8
  have Zk8 : n0 ≤ T8.heap.size := Nat.le_trans Zk3 K8.1
  have Kk8 : Keep h0 T8.heap [] := Kk3.trans K8 all0
  have f9 := (own_stak f5 K8 all0)
  have f10 := (own_stak f6 K8 all0)
  have f11 := (own_stak f7 K8 all0)
  obtain ⟨_, T12, Lc12, X12, hQ12, st12⟩ := own_callS (W := 0) (y := mN12) X8 hx hZ hown (hw _ (own_w 94 rfl)) (hw _ (own_w 95 rfl)) (hw _ (own_w 40 rfl)) (hw _ (own_w 96 rfl)) (by decide) (rmGc l Z av0 hw [] b8 kb8 (8 : Int32) [(.int (own_lo c0)), (.int (own_hi c0)), (.int (own_lo c1)), (.int (own_hi c1)), (.int (own_lo c2)), (.int (own_hi c2)), (.int (own_lo c3)), (.int (own_hi c3))] (1 : Int32) (own_lo c1) (own_hi c1) T8.heap n0 Zk8 V8 f9 f10 f11 (by decide) (by decide) rfl rfl) (by decide) (by decide) (g := (mkF m 32 #[rv a0, iv 0, iv 4, rv b1, iv 1, rv b8] [(.int 1), (.ref b8)])) rfl (by rw [hml]; rfl) (argsL := [(.ref b8), (.int 1)]) (rest := []) (lenOf pd__BI_C rfl) rfl (hb hby d7_32) rfl e8 (by decide : 2 + 0 ≤ _) (by decide : 12 + 0 ≤ _)
  obtain ⟨rfl, N12q, hh12⟩ := hQ12
  have N12 := Fr.app N8 N12q
  have e12 : T12.heap = T8.heap := hh12
  have S13 : ∀ t, oS p e below T12 (mkF m 56 #[rv a0, iv 0, iv 4, rv b1, iv 1, rv b8] [(.ref b8)]) t → oS p e below s₁ (mkF m 0 #[rv a0, iv 0, iv 4, .unset, .unset, .unset] []) t := fun t k => id (by
    show oS p e below s₁ (mkF m 0 #[rv a0, iv 0, iv 4, .unset, .unset, .unset] []) _
    refine XS.iloadN X0.here hx rfl (hb hby d7_0) rfl ?_
    refine st1 _ ?_
    refine XS.astoreN X1.here hx rfl (hb hby d7_3) rfl rfl (l' := #[rv a0, iv 0, iv 4, rv b1, .unset, .unset]) rfl ?_
    refine XS.aloadN X1.here hx rfl (hb hby d7_4) rfl rfl ?_
    refine XS.iloadN X1.here hx rfl (hb hby d7_5) rfl ?_
    refine XS.aloadN X1.here hx rfl (hb hby d7_6) rfl rfl ?_
    refine XT.iconstV X1.here hx rfl (0 : Int32) (hb hby d7_7) (by decide) ?_
    refine XS.iloadN X1.here hx rfl (hb hby d7_8) rfl ?_
    refine st3 _ ?_
    refine XS.istore X3.here hx rfl (hb hby d7_12) rfl (l' := #[rv a0, iv 0, iv 4, rv b1, iv 1, .unset]) rfl ?_
    refine XS.iload X3.here hx rfl (hb hby d7_14) rfl ?_
    refine XS.iloadN X3.here hx rfl (hb hby d7_16) rfl ?_
    refine XS.icmpNo X3.here hx rfl (hb hby d7_17) rfl (XT.ii_eq_f (by decide)) ?_
    refine XS.aloadN X3.here hx rfl (hb hby d7_20) rfl rfl ?_
    refine XS.iloadN X3.here hx rfl (hb hby d7_21) rfl ?_
    refine XS.iloadN X3.here hx rfl (hb hby d7_22) rfl ?_
    refine st8 _ ?_
    refine XS.astore X8.here hx rfl (hb hby d7_26) rfl rfl (l' := #[rv a0, iv 0, iv 4, rv b1, iv 1, rv b8]) rfl ?_
    refine XS.aload X8.here hx rfl (hb hby d7_28) rfl rfl ?_
    refine XS.iload X8.here hx rfl (hb hby d7_30) rfl ?_
    show oS p e below T8 (mkF m 32 #[rv a0, iv 0, iv 4, rv b1, iv 1, rv b8] [(.int 1), (.ref b8)]) _
    refine st12 _ ?_
    refine XT.sipushV X12.here hx rfl (255 : Int32) (hb hby d7_35) (by decide) ?_
    refine XS.icmpYes X12.here hx rfl (pc0 := 38) (pc' := 54) rfl (hb hby d7_38) rfl (XT.ii_gt_t (by rw [own_gcv c1 hg.1 hg.2]; exact hbg)) (by decide) (by decide) ?_
    refine XS.aload X12.here hx rfl (hb hby d7_54) rfl rfl ?_
    exact k)
  obtain ⟨fs, hr, hrun, hended, hW, hsame⟩ := X12.leave (v := some (.ref b8)) (fun h => by rw [Bd.returns] at h; cases h)
  refine ⟨_, _, pre0 _ (S13 _ ?_), hrun, hended, _, _, rfl, ?_, ⟨_, rfl⟩, hW, hsame.mono (by decide) (by decide)⟩
  · jvm_step X12.here [X12.here.top, hx, (hb hby d7_56), X12.method', Bd.returns, Value.isRef, FieldType.isReference]
    first | (intro acts; rw [hr _ acts rfl rfl rfl]) | rw [hr _ _ rfl rfl rfl]
    exact Steps.refl _
  · show QrmCp3_4_1 Z a0 ka c0 c1 c2 c3 h0 n0 _ T12.heap _
    rw [e12]
    exact ⟨_, _, rfl, N12, sz_b8, Kk8, V8⟩
def QrmCp5_4_2 (Z : State) (a0 : Addr) (a2 : Addr) (ka : ClassId) (kb : ClassId) (c0 : Int32) (c1 : Int32) (c2 : Int32) (c3 : Int32) (h0 : Heap) (n0 : Nat) (v : Option Value) (h : Heap) (L : List Loc) : Prop := v = some (.int (2 : Int32)) ∧ Fr n0 L ∧ Keep h0 h [a2] ∧ Arv Z h a2 kb .byte (4 : Int32) [(.int (own_b c0)), (.int (own_b c1)), (.int (0 : Int32)), (.int (0 : Int32))] (.int (0 : Int32))
set_option maxRecDepth 65536 in
set_option maxHeartbeats 40000000 in
theorem rmCp5_4_2 (l : Launch) (Z : State) (av0 : Array Value) (hw : ∀ d ∈ tables_1, d.before av0 Z = true) (ws : List Jvm.Cond) (a0 : Addr) (a2 : Addr) (ka : ClassId) (kb : ClassId) (c0 : Int32) (c1 : Int32) (c2 : Int32) (c3 : Int32) (h0 : Heap) (n0 : Nat) (Z0 : n0 ≤ h0.size) (hA : Arv Z h0 a0 ka .char (4 : Int32) [(.int c0), (.int c1), (.int c2), (.int c3)] (.int (0 : Int32))) (hB : Arv Z h0 a2 kb .byte (4 : Int32) [(.int (0 : Int32)), (.int (0 : Int32)), (.int (0 : Int32)), (.int (0 : Int32))] (.int (0 : Int32))) (hne : a0 ≠ a2) (hge : n0 ≤ a2) (hc0 : ¬ (255 : Int32) < c0) (hc1 : ¬ (255 : Int32) < c1) (hbg : (255 : Int32) < c2) :
    own_Met l mN16 jdk_52_method_21_code 7 (some .int) ws ({ frames := 0, cells := 0, slots := 0, locals := 0 } : Room) #[(.ref a0), (.int 0), (.ref a2), (.int 0), (.int 4)] Z h0 (QrmCp5_4_2 Z a0 a2 ka kb c0 c1 c2 c3 h0 n0) := by
  refine MetFree.of_bodySF (plainFor_of_name pn_StringUTF16) hisR ?_
  intro p e s m args below meth c s₁ Bd hml0 hP hK
  obtain ⟨rfl, hZ, hh⟩ := hP
  have hml : c.maxLocals = 7 := hml0
  obtain ⟨hx, hby, hown, hnm, X0, e0⟩ := own_start Bd hml0 hh
  have N0 := Fr.nil n0
  have pre0 : ∀ t, oS p e below s₁ (mkF m 0 #[rv a0, iv 0, rv a2, iv 0, iv 4, .unset, .unset] []) t → Steps p.tables e below (s₁.setTop (entryFrame m #[(.ref a0), (.int 0), (.ref a2), (.int 0), (.int 4)] 7)) t := fun t k => castTop (by first | (simp [entryFrame, mkF, argsToLocals, Value.category]; done) | rfl) k
  obtain ⟨cl1, Ar1, qk1, Sz1, Ng1, Hs1, Gs1⟩ := id hA
  have hin1 : ¬ ((0 : Int32) < 0 ∨ cl1.slots.size ≤ ((0 : Int32)).toNatClampNeg) := inb_of Sz1 ⟨by decide, by decide⟩
  have hat1 : cl1.slots[((0 : Int32)).toNatClampNeg]? = some (.int c0) := Hs1.at hin1 rfl
  obtain ⟨cl2, Ar2, qk2, Sz2, Ng2, Hs2, Gs2⟩ := id hB
  have hin2 : ¬ ((0 : Int32) < 0 ∨ cl2.slots.size ≤ ((0 : Int32)).toNatClampNeg) := inb_of Sz2 ⟨by decide, by decide⟩
  obtain ⟨T3, h3, X3, e3, W3, st3⟩ := stB X0 hx hZ e0 Ar2 (j := (0 : Int32)) hin2 (g := (mkF m 31 #[rv a0, iv 0, rv a2, iv 0, iv 4, iv 0, iv c0] [(.int (c0).toInt8.toInt32), (.int 0), (.ref a2)])) rfl rfl (hb hby d8_31)
  have N3 := Fr.snoc X3 N0 hge
  have Z3 : n0 ≤ h3.size := Nat.le_trans Z0 (Nat.le_of_eq W3.size.symm)
  have K3 : Keep h0 h3 [a2] := (Keep.refl h0 [a2]).wr W3 (Or.inl (List.mem_of_getElem? (i := 0) rfl))
  have V3 : Arv Z h3 a2 kb .byte (4 : Int32) [(.int (nar .byte (c0).toInt8.toInt32)), (.int (0 : Int32)), (.int (0 : Int32)), (.int (0 : Int32))] (.int (0 : Int32)) := Arv.set Ar2 qk2 Sz2 Ng2 Hs2 Gs2 (fits_nar_byte _) W3 0 rfl (Nat.le_of_ble_eq_true rfl)
  have f4 := (hA.other W3 hne)
  obtain ⟨cl5, Ar5, qk5, Sz5, Ng5, Hs5, Gs5⟩ := id f4
  have hin5 : ¬ ((1 : Int32) < 0 ∨ cl5.slots.size ≤ ((1 : Int32)).toNatClampNeg) := inb_of Sz5 ⟨by decide, by decide⟩
  have hat5 : cl5.slots[((1 : Int32)).toNatClampNeg]? = some (.int c1) := Hs5.at hin5 rfl
  obtain ⟨cl6, Ar6, qk6, Sz6, Ng6, Hs6, Gs6⟩ := id V3
  have hin6 : ¬ ((1 : Int32) < 0 ∨ cl6.slots.size ≤ ((1 : Int32)).toNatClampNeg) := inb_of Sz6 ⟨by decide, by decide⟩
  obtain ⟨T7, h7, X7, e7, W7, st7⟩ := stB X3 hx hZ e3 Ar6 (j := (1 : Int32)) hin6 (g := (mkF m 31 #[rv a0, iv 1, rv a2, iv 1, iv 4, iv 1, iv c1] [(.int (c1).toInt8.toInt32), (.int 1), (.ref a2)])) rfl rfl (hb hby d8_31)
  have N7 := Fr.snoc X7 N3 hge
  have Z7 : n0 ≤ h7.size := Nat.le_trans Z3 (Nat.le_of_eq W7.size.symm)
  have K7 : Keep h0 h7 [a2] := K3.wr W7 (Or.inl (List.mem_of_getElem? (i := 0) rfl))
  have V7 : Arv Z h7 a2 kb .byte (4 : Int32) [(.int (nar .byte (c0).toInt8.toInt32)), (.int (nar .byte (c1).toInt8.toInt32)), (.int (0 : Int32)), (.int (0 : Int32))] (.int (0 : Int32)) := Arv.set Ar6 qk6 Sz6 Ng6 Hs6 Gs6 (fits_nar_byte _) W7 1 rfl (Nat.le_of_ble_eq_true rfl)
  have f8 := (f4.other W7 hne)
  obtain ⟨cl9, Ar9, qk9, Sz9, Ng9, Hs9, Gs9⟩ := id f8
  have hin9 : ¬ ((2 : Int32) < 0 ∨ cl9.slots.size ≤ ((2 : Int32)).toNatClampNeg) := inb_of Sz9 ⟨by decide, by decide⟩
  have hat9 : cl9.slots[((2 : Int32)).toNatClampNeg]? = some (.int c2) := Hs9.at hin9 rfl
  have S10 : ∀ t, oS p e below T7 (mkF m 25 #[rv a0, iv 2, rv a2, iv 2, iv 4, iv 2, iv c2] [(.int 2)]) t → oS p e below s₁ (mkF m 0 #[rv a0, iv 0, rv a2, iv 0, iv 4, .unset, .unset] []) t := fun t k => id (by
    show oS p e below s₁ (mkF m 0 #[rv a0, iv 0, rv a2, iv 0, iv 4, .unset, .unset] []) _
    refine XT.iconstV X0.here hx rfl (0 : Int32) (hb hby d8_0) (by decide) ?_
    refine XS.istore X0.here hx rfl (hb hby d8_1) rfl (l' := #[rv a0, iv 0, rv a2, iv 0, iv 4, iv 0, .unset]) rfl ?_
    refine XS.iload X0.here hx rfl (hb hby d8_3) rfl ?_
    refine XS.iload X0.here hx rfl (hb hby d8_5) rfl ?_
    refine XS.icmpNo X0.here hx rfl (hb hby d8_7) rfl (XT.ii_ge_f (by decide)) ?_
    refine XS.aloadN X0.here hx rfl (hb hby d8_10) rfl rfl ?_
    refine XS.iloadN X0.here hx rfl (hb hby d8_11) rfl ?_
    refine X0.caload hx (j := (0 : Int32)) (v := (.int c0)) (by rw [e0]; exact Ar1.1) (State.isArrayOf_alike hZ.alike Ar1.2.1) Ar1.2.2 hin1 hat1 (g := (mkF m 12 #[rv a0, iv 0, rv a2, iv 0, iv 4, iv 0, .unset] [(.int 0), (.ref a0)])) rfl rfl (hb hby d8_12) _ ?_
    refine XS.istore X0.here hx rfl (hb hby d8_13) rfl (l' := #[rv a0, iv 0, rv a2, iv 0, iv 4, iv 0, iv c0]) rfl ?_
    refine XS.iload X0.here hx rfl (hb hby d8_15) rfl ?_
    refine XT.sipushV X0.here hx rfl (255 : Int32) (hb hby d8_17) (by decide) ?_
    refine XS.icmpYes X0.here hx rfl (pc0 := 20) (pc' := 26) rfl (hb hby d8_20) rfl (XT.ii_le_t hc0) (by decide) (by decide) ?_
    refine XS.aloadN X0.here hx rfl (hb hby d8_26) rfl rfl ?_
    refine XS.iloadN X0.here hx rfl (hb hby d8_27) rfl ?_
    refine XS.iload X0.here hx rfl (hb hby d8_28) rfl ?_
    refine XT.i2b X0.here hx rfl (hb hby d8_30) rfl ?_
    refine st3 _ ?_
    refine XT.iincV X3.here hx rfl (1 : Int32) (hb hby d8_32) (by decide) rfl (l' := #[rv a0, iv 1, rv a2, iv 0, iv 4, iv 0, iv c0]) rfl ?_
    refine XT.iincV X3.here hx rfl (1 : Int32) (hb hby d8_35) (by decide) rfl (l' := #[rv a0, iv 1, rv a2, iv 1, iv 4, iv 0, iv c0]) rfl ?_
    refine XT.iincV X3.here hx rfl (1 : Int32) (hb hby d8_38) (by decide) rfl (l' := #[rv a0, iv 1, rv a2, iv 1, iv 4, iv 1, iv c0]) rfl ?_
    show oS p e below T3 (mkF m 41 #[rv a0, iv 1, rv a2, iv 1, iv 4, iv 1, iv c0] []) _
    refine XS.goto X3.here hx rfl (pc0 := 41) (pc' := 3) rfl (hb hby d8_41) (by decide) (by decide) ?_
    refine XS.iload X3.here hx rfl (hb hby d8_3) rfl ?_
    refine XS.iload X3.here hx rfl (hb hby d8_5) rfl ?_
    refine XS.icmpNo X3.here hx rfl (hb hby d8_7) rfl (XT.ii_ge_f (by decide)) ?_
    refine XS.aloadN X3.here hx rfl (hb hby d8_10) rfl rfl ?_
    refine XS.iloadN X3.here hx rfl (hb hby d8_11) rfl ?_
    refine X3.caload hx (j := (1 : Int32)) (v := (.int c1)) (by rw [e3]; exact Ar5.1) (State.isArrayOf_alike hZ.alike Ar5.2.1) Ar5.2.2 hin5 hat5 (g := (mkF m 12 #[rv a0, iv 1, rv a2, iv 1, iv 4, iv 1, iv c0] [(.int 1), (.ref a0)])) rfl rfl (hb hby d8_12) _ ?_
    refine XS.istore X3.here hx rfl (hb hby d8_13) rfl (l' := #[rv a0, iv 1, rv a2, iv 1, iv 4, iv 1, iv c1]) rfl ?_
    refine XS.iload X3.here hx rfl (hb hby d8_15) rfl ?_
    refine XT.sipushV X3.here hx rfl (255 : Int32) (hb hby d8_17) (by decide) ?_
    refine XS.icmpYes X3.here hx rfl (pc0 := 20) (pc' := 26) rfl (hb hby d8_20) rfl (XT.ii_le_t hc1) (by decide) (by decide) ?_
    refine XS.aloadN X3.here hx rfl (hb hby d8_26) rfl rfl ?_
    refine XS.iloadN X3.here hx rfl (hb hby d8_27) rfl ?_
    refine XS.iload X3.here hx rfl (hb hby d8_28) rfl ?_
    refine XT.i2b X3.here hx rfl (hb hby d8_30) rfl ?_
    refine st7 _ ?_
    refine XT.iincV X7.here hx rfl (1 : Int32) (hb hby d8_32) (by decide) rfl (l' := #[rv a0, iv 2, rv a2, iv 1, iv 4, iv 1, iv c1]) rfl ?_
    refine XT.iincV X7.here hx rfl (1 : Int32) (hb hby d8_35) (by decide) rfl (l' := #[rv a0, iv 2, rv a2, iv 2, iv 4, iv 1, iv c1]) rfl ?_
    refine XT.iincV X7.here hx rfl (1 : Int32) (hb hby d8_38) (by decide) rfl (l' := #[rv a0, iv 2, rv a2, iv 2, iv 4, iv 2, iv c1]) rfl ?_
    refine XS.goto X7.here hx rfl (pc0 := 41) (pc' := 3) rfl (hb hby d8_41) (by decide) (by decide) ?_
    show oS p e below T7 (mkF m 3 #[rv a0, iv 2, rv a2, iv 2, iv 4, iv 2, iv c1] []) _
    refine XS.iload X7.here hx rfl (hb hby d8_3) rfl ?_
    refine XS.iload X7.here hx rfl (hb hby d8_5) rfl ?_
    refine XS.icmpNo X7.here hx rfl (hb hby d8_7) rfl (XT.ii_ge_f (by decide)) ?_
    refine XS.aloadN X7.here hx rfl (hb hby d8_10) rfl rfl ?_
    refine XS.iloadN X7.here hx rfl (hb hby d8_11) rfl ?_
    refine X7.caload hx (j := (2 : Int32)) (v := (.int c2)) (by rw [e7]; exact Ar9.1) (State.isArrayOf_alike hZ.alike Ar9.2.1) Ar9.2.2 hin9 hat9 (g := (mkF m 12 #[rv a0, iv 2, rv a2, iv 2, iv 4, iv 2, iv c1] [(.int 2), (.ref a0)])) rfl rfl (hb hby d8_12) _ ?_
    refine XS.istore X7.here hx rfl (hb hby d8_13) rfl (l' := #[rv a0, iv 2, rv a2, iv 2, iv 4, iv 2, iv c2]) rfl ?_
    refine XS.iload X7.here hx rfl (hb hby d8_15) rfl ?_
    refine XT.sipushV X7.here hx rfl (255 : Int32) (hb hby d8_17) (by decide) ?_
    refine XS.icmpNo X7.here hx rfl (hb hby d8_20) rfl (XT.ii_le_f hbg) ?_
    refine XS.iload X7.here hx rfl (hb hby d8_23) rfl ?_
    exact k)
  obtain ⟨fs, hr, hrun, hended, hW, hsame⟩ := X7.leave (v := some (.int 2)) (fun h => by rw [Bd.returns] at h; cases h)
  refine ⟨_, _, pre0 _ (S10 _ ?_), hrun, hended, _, _, rfl, ?_, ⟨_, rfl⟩, hW, hsame.mono (by decide) (by decide)⟩
  · exact retI X7 hx Bd.returns (hb hby d8_25) hr
  · show QrmCp5_4_2 Z a0 a2 ka kb c0 c1 c2 c3 h0 n0 _ T7.heap _
    rw [e7]
    exact ⟨congrArg (fun z => some (Value.int z)) (by decide), N7, K7, V7⟩
def QrmCp3_4_2 (Z : State) (a0 : Addr) (ka : ClassId) (c0 : Int32) (c1 : Int32) (c2 : Int32) (c3 : Int32) (h0 : Heap) (n0 : Nat) (v : Option Value) (h : Heap) (L : List Loc) : Prop := ∃ (b : Addr) (k : ClassId), v = some (.ref b) ∧ Fr n0 L ∧ h0.size ≤ b ∧ Keep h0 h [] ∧ Arv Z h b k .byte (8 : Int32) [(.int (own_lo c0)), (.int (own_hi c0)), (.int (own_lo c1)), (.int (own_hi c1)), (.int (own_lo c2)), (.int (own_hi c2)), (.int (own_lo c3)), (.int (own_hi c3))] (.int (0 : Int32))
set_option maxRecDepth 65536 in
set_option maxHeartbeats 40000000 in
theorem rmCp3_4_2 (l : Launch) (Z : State) (av0 : Array Value) (hw : ∀ d ∈ tables_1, d.before av0 Z = true) (ws : List Jvm.Cond) (a0 : Addr) (ka : ClassId) (c0 : Int32) (c1 : Int32) (c2 : Int32) (c3 : Int32) (h0 : Heap) (n0 : Nat) (Z0 : n0 ≤ h0.size) (hA : Arv Z h0 a0 ka .char (4 : Int32) [(.int c0), (.int c1), (.int c2), (.int c3)] (.int (0 : Int32))) (hc0 : ¬ (255 : Int32) < c0) (hc1 : ¬ (255 : Int32) < c1) (hbg : (255 : Int32) < c2) (hg : 0 ≤ c2.toInt ∧ c2.toInt < 65536) (sA : Sta Z h0 "java/lang/StringUTF16" "$assertionsDisabled" "Z" (.int (1 : Int32))) (sH : Sta Z h0 "java/lang/StringUTF16" "HI_BYTE_SHIFT" "I" (.int (0 : Int32))) (sL : Sta Z h0 "java/lang/StringUTF16" "LO_BYTE_SHIFT" "I" (.int (8 : Int32))) :
    own_Met l mN21 jdk_52_method_16_code 6 (some (.array .byte)) ws ({ frames := 3, cells := 2, slots := 12, locals := 40 } : Room) #[(.ref a0), (.int 0), (.int 4)] Z h0 (QrmCp3_4_2 Z a0 ka c0 c1 c2 c3 h0 n0) := by
  refine MetFree.of_bodySF (plainFor_of_name pn_StringUTF16) hisR ?_
  intro p e s m args below meth c s₁ Bd hml0 hP hK
  obtain ⟨rfl, hZ, hh⟩ := hP
  have hml : c.maxLocals = 6 := hml0
  obtain ⟨hx, hby, hown, hnm, X0, e0⟩ := own_start Bd hml0 hh
  have N0 := Fr.nil n0
  have pre0 : ∀ t, oS p e below s₁ (mkF m 0 #[rv a0, iv 0, iv 4, .unset, .unset, .unset] []) t → Steps p.tables e below (s₁.setTop (entryFrame m #[(.ref a0), (.int 0), (.int 4)] 6)) t := fun t k => castTop (by first | (simp [entryFrame, mkF, argsToLocals, Value.category]; done) | rfl) k
  obtain ⟨T1, h1, k1, X1, e1, E1, A1, st1⟩ := newP X0 hx hZ (hw _ (own_w 16 rfl)) e0 (g := (mkF m 1 #[rv a0, iv 0, iv 4, .unset, .unset, .unset] [(.int 4)])) rfl (hb hby d7_1) rfl (by decide) (cap := 4) (by decide) (by decide) (by decide) (by decide)
  obtain ⟨b1, g1⟩ : ∃ z, z = h0.size := ⟨_, rfl⟩
  rw [← g1] at A1 st1
  have ne_a0_b1 : a0 ≠ b1 := Nat.ne_of_lt (Nat.lt_of_lt_of_le hA.lt (Nat.le_of_eq g1.symm))
  have ge_b1 : n0 ≤ b1 := Nat.le_trans Z0 (Nat.le_of_eq g1.symm)
  have sz_b1 : h0.size ≤ b1 := Nat.le_of_eq g1.symm
  have Z1 : n0 ≤ h1.size := Nat.le_trans Z0 E1.1
  have K1 : Keep h0 h1 [] := (Keep.refl h0 []).ext E1
  have V1 : Arv Z h1 b1 k1 .byte (4 : Int32) [(.int (0 : Int32)), (.int (0 : Int32)), (.int (0 : Int32)), (.int (0 : Int32))] (.int (0 : Int32)) := (Arv.new A1 (by decide)).pad (pad_rep [] (.int (0 : Int32)) 4)
  have f2 := (hA.ext E1)
  obtain ⟨_, T3, Lc3, X3, hQ3, st3⟩ := own_callS (W := 0) (y := mN16) X1 hx hZ hown (hw _ (own_w 42 rfl)) (hw _ (own_w 43 rfl)) (hw _ (own_w 40 rfl)) (hw _ (own_w 44 rfl)) (by decide) (rmCp5_4_2 l Z av0 hw [] a0 b1 ka k1 c0 c1 c2 c3 h1 n0 Z1 f2 V1 ne_a0_b1 ge_b1 hc0 hc1 hbg) (by decide) (by decide) (g := (mkF m 9 #[rv a0, iv 0, iv 4, rv b1, .unset, .unset] [(.int 4), (.int 0), (.ref b1), (.int 0), (.ref a0)])) rfl (by rw [hml]; rfl) (argsL := [(.ref a0), (.int 0), (.ref b1), (.int 0), (.int 4)]) (rest := []) (lenOf pd__CI_BII_I rfl) rfl (hb hby d7_9) rfl e1 (by decide : 1 + 0 ≤ _) (by decide : 4 + 0 ≤ _)
  obtain ⟨rfl, N3q, K3, V3⟩ := hQ3
  have N3 := Fr.app N0 N3q
  have e3 : T3.heap = T3.heap := rfl
  have Zk3 : n0 ≤ T3.heap.size := Nat.le_trans Z1 K3.1
  have Kk3 : Keep h0 T3.heap [] := K1.trans K3 (allS (Or.inr sz_b1) all0)
  have f4 := (f2.keep K3 (ninS ne_a0_b1 nin0))
  have f5 := (own_stak (sA.ext E1) K3 (allS (own_arns V1) all0))
  have f6 := (own_stak (sH.ext E1) K3 (allS (own_arns V1) all0))
  have f7 := (own_stak (sL.ext E1) K3 (allS (own_arns V1) all0))
  obtain ⟨_, T8, Lc8, X8, hQ8, st8⟩ := own_callS (W := 0) (y := mN20) X3 hx hZ hown (hw _ (own_w 78 rfl)) (hw _ (own_w 79 rfl)) (hw _ (own_w 40 rfl)) (hw _ (own_w 80 rfl)) (by decide) (rmTb_4 l Z av0 hw [] a0 ka c0 c1 c2 c3 T3.heap n0 Zk3 f4 f5 f6 f7) (by decide) (by decide) (g := (mkF m 23 #[rv a0, iv 0, iv 4, rv b1, iv 2, .unset] [(.int 4), (.int 0), (.ref a0)])) rfl (by rw [hml]; rfl) (argsL := [(.ref a0), (.int 0), (.int 4)]) (rest := []) (lenOf pd__CII_B rfl) rfl (hb hby d7_23) rfl e3 (by decide : 1 + 1 ≤ _) (by decide : 4 + 8 ≤ _)
  obtain ⟨b8, kb8, rfl, N8q, gb8, K8, V8⟩ := hQ8
  have N8 := Fr.app N3 N8q
  have e8 : T8.heap = T8.heap := rfl
  have ne_a0_b8 : a0 ≠ b8 := Nat.ne_of_lt (Nat.lt_of_lt_of_le f4.lt gb8)
  have ne_b1_b8 : b1 ≠ b8 := Nat.ne_of_lt (Nat.lt_of_lt_of_le V3.lt gb8)
  have ge_b8 : n0 ≤ b8 := Nat.le_trans Zk3 gb8
  have sz_b8 : h0.size ≤ b8 := Nat.le_trans Kk3.1 gb8
  have Zk8 : n0 ≤ T8.heap.size := Nat.le_trans Zk3 K8.1
  have Kk8 : Keep h0 T8.heap [] := Kk3.trans K8 all0
  have f9 := (own_stak f5 K8 all0)
  have f10 := (own_stak f6 K8 all0)
  have f11 := (own_stak f7 K8 all0)
  obtain ⟨_, T12, Lc12, X12, hQ12, st12⟩ := own_callS (W := 0) (y := mN12) X8 hx hZ hown (hw _ (own_w 94 rfl)) (hw _ (own_w 95 rfl)) (hw _ (own_w 40 rfl)) (hw _ (own_w 96 rfl)) (by decide) (rmGc l Z av0 hw [] b8 kb8 (8 : Int32) [(.int (own_lo c0)), (.int (own_hi c0)), (.int (own_lo c1)), (.int (own_hi c1)), (.int (own_lo c2)), (.int (own_hi c2)), (.int (own_lo c3)), (.int (own_hi c3))] (2 : Int32) (own_lo c2) (own_hi c2) T8.heap n0 Zk8 V8 f9 f10 f11 (by decide) (by decide) rfl rfl) (by decide) (by decide) (g := (mkF m 32 #[rv a0, iv 0, iv 4, rv b1, iv 2, rv b8] [(.int 2), (.ref b8)])) rfl (by rw [hml]; rfl) (argsL := [(.ref b8), (.int 2)]) (rest := []) (lenOf pd__BI_C rfl) rfl (hb hby d7_32) rfl e8 (by decide : 2 + 0 ≤ _) (by decide : 12 + 0 ≤ _)
  obtain ⟨rfl, N12q, hh12⟩ := hQ12
  have N12 := Fr.app N8 N12q
  have e12 : T12.heap = T8.heap := hh12
  have S13 : ∀ t, oS p e below T12 (mkF m 56 #[rv a0, iv 0, iv 4, rv b1, iv 2, rv b8] [(.ref b8)]) t → oS p e below s₁ (mkF m 0 #[rv a0, iv 0, iv 4, .unset, .unset, .unset] []) t := fun t k => id (by
    show oS p e below s₁ (mkF m 0 #[rv a0, iv 0, iv 4, .unset, .unset, .unset] []) _
    refine XS.iloadN X0.here hx rfl (hb hby d7_0) rfl ?_
    refine st1 _ ?_
    refine XS.astoreN X1.here hx rfl (hb hby d7_3) rfl rfl (l' := #[rv a0, iv 0, iv 4, rv b1, .unset, .unset]) rfl ?_
    refine XS.aloadN X1.here hx rfl (hb hby d7_4) rfl rfl ?_
    refine XS.iloadN X1.here hx rfl (hb hby d7_5) rfl ?_
    refine XS.aloadN X1.here hx rfl (hb hby d7_6) rfl rfl ?_
    refine XT.iconstV X1.here hx rfl (0 : Int32) (hb hby d7_7) (by decide) ?_
    refine XS.iloadN X1.here hx rfl (hb hby d7_8) rfl ?_
    refine st3 _ ?_
    refine XS.istore X3.here hx rfl (hb hby d7_12) rfl (l' := #[rv a0, iv 0, iv 4, rv b1, iv 2, .unset]) rfl ?_
    refine XS.iload X3.here hx rfl (hb hby d7_14) rfl ?_
    refine XS.iloadN X3.here hx rfl (hb hby d7_16) rfl ?_
    refine XS.icmpNo X3.here hx rfl (hb hby d7_17) rfl (XT.ii_eq_f (by decide)) ?_
    refine XS.aloadN X3.here hx rfl (hb hby d7_20) rfl rfl ?_
    refine XS.iloadN X3.here hx rfl (hb hby d7_21) rfl ?_
    refine XS.iloadN X3.here hx rfl (hb hby d7_22) rfl ?_
    refine st8 _ ?_
    refine XS.astore X8.here hx rfl (hb hby d7_26) rfl rfl (l' := #[rv a0, iv 0, iv 4, rv b1, iv 2, rv b8]) rfl ?_
    refine XS.aload X8.here hx rfl (hb hby d7_28) rfl rfl ?_
    refine XS.iload X8.here hx rfl (hb hby d7_30) rfl ?_
    show oS p e below T8 (mkF m 32 #[rv a0, iv 0, iv 4, rv b1, iv 2, rv b8] [(.int 2), (.ref b8)]) _
    refine st12 _ ?_
    refine XT.sipushV X12.here hx rfl (255 : Int32) (hb hby d7_35) (by decide) ?_
    refine XS.icmpYes X12.here hx rfl (pc0 := 38) (pc' := 54) rfl (hb hby d7_38) rfl (XT.ii_gt_t (by rw [own_gcv c2 hg.1 hg.2]; exact hbg)) (by decide) (by decide) ?_
    refine XS.aload X12.here hx rfl (hb hby d7_54) rfl rfl ?_
    exact k)
  obtain ⟨fs, hr, hrun, hended, hW, hsame⟩ := X12.leave (v := some (.ref b8)) (fun h => by rw [Bd.returns] at h; cases h)
  refine ⟨_, _, pre0 _ (S13 _ ?_), hrun, hended, _, _, rfl, ?_, ⟨_, rfl⟩, hW, hsame.mono (by decide) (by decide)⟩
  · jvm_step X12.here [X12.here.top, hx, (hb hby d7_56), X12.method', Bd.returns, Value.isRef, FieldType.isReference]
    first | (intro acts; rw [hr _ acts rfl rfl rfl]) | rw [hr _ _ rfl rfl rfl]
    exact Steps.refl _
  · show QrmCp3_4_2 Z a0 ka c0 c1 c2 c3 h0 n0 _ T12.heap _
    rw [e12]
    exact ⟨_, _, rfl, N12, sz_b8, Kk8, V8⟩
def QrmCp5_4_3 (Z : State) (a0 : Addr) (a2 : Addr) (ka : ClassId) (kb : ClassId) (c0 : Int32) (c1 : Int32) (c2 : Int32) (c3 : Int32) (h0 : Heap) (n0 : Nat) (v : Option Value) (h : Heap) (L : List Loc) : Prop := v = some (.int (3 : Int32)) ∧ Fr n0 L ∧ Keep h0 h [a2] ∧ Arv Z h a2 kb .byte (4 : Int32) [(.int (own_b c0)), (.int (own_b c1)), (.int (own_b c2)), (.int (0 : Int32))] (.int (0 : Int32))
set_option maxRecDepth 65536 in
set_option maxHeartbeats 40000000 in
theorem rmCp5_4_3 (l : Launch) (Z : State) (av0 : Array Value) (hw : ∀ d ∈ tables_1, d.before av0 Z = true) (ws : List Jvm.Cond) (a0 : Addr) (a2 : Addr) (ka : ClassId) (kb : ClassId) (c0 : Int32) (c1 : Int32) (c2 : Int32) (c3 : Int32) (h0 : Heap) (n0 : Nat) (Z0 : n0 ≤ h0.size) (hA : Arv Z h0 a0 ka .char (4 : Int32) [(.int c0), (.int c1), (.int c2), (.int c3)] (.int (0 : Int32))) (hB : Arv Z h0 a2 kb .byte (4 : Int32) [(.int (0 : Int32)), (.int (0 : Int32)), (.int (0 : Int32)), (.int (0 : Int32))] (.int (0 : Int32))) (hne : a0 ≠ a2) (hge : n0 ≤ a2) (hc0 : ¬ (255 : Int32) < c0) (hc1 : ¬ (255 : Int32) < c1) (hc2 : ¬ (255 : Int32) < c2) (hbg : (255 : Int32) < c3) :
    own_Met l mN16 jdk_52_method_21_code 7 (some .int) ws ({ frames := 0, cells := 0, slots := 0, locals := 0 } : Room) #[(.ref a0), (.int 0), (.ref a2), (.int 0), (.int 4)] Z h0 (QrmCp5_4_3 Z a0 a2 ka kb c0 c1 c2 c3 h0 n0) := by
  refine MetFree.of_bodySF (plainFor_of_name pn_StringUTF16) hisR ?_
  intro p e s m args below meth c s₁ Bd hml0 hP hK
  obtain ⟨rfl, hZ, hh⟩ := hP
  have hml : c.maxLocals = 7 := hml0
  obtain ⟨hx, hby, hown, hnm, X0, e0⟩ := own_start Bd hml0 hh
  have N0 := Fr.nil n0
  have pre0 : ∀ t, oS p e below s₁ (mkF m 0 #[rv a0, iv 0, rv a2, iv 0, iv 4, .unset, .unset] []) t → Steps p.tables e below (s₁.setTop (entryFrame m #[(.ref a0), (.int 0), (.ref a2), (.int 0), (.int 4)] 7)) t := fun t k => castTop (by first | (simp [entryFrame, mkF, argsToLocals, Value.category]; done) | rfl) k
  obtain ⟨cl1, Ar1, qk1, Sz1, Ng1, Hs1, Gs1⟩ := id hA
  have hin1 : ¬ ((0 : Int32) < 0 ∨ cl1.slots.size ≤ ((0 : Int32)).toNatClampNeg) := inb_of Sz1 ⟨by decide, by decide⟩
  have hat1 : cl1.slots[((0 : Int32)).toNatClampNeg]? = some (.int c0) := Hs1.at hin1 rfl
  obtain ⟨cl2, Ar2, qk2, Sz2, Ng2, Hs2, Gs2⟩ := id hB
  have hin2 : ¬ ((0 : Int32) < 0 ∨ cl2.slots.size ≤ ((0 : Int32)).toNatClampNeg) := inb_of Sz2 ⟨by decide, by decide⟩
  obtain ⟨T3, h3, X3, e3, W3, st3⟩ := stB X0 hx hZ e0 Ar2 (j := (0 : Int32)) hin2 (g := (mkF m 31 #[rv a0, iv 0, rv a2, iv 0, iv 4, iv 0, iv c0] [(.int (c0).toInt8.toInt32), (.int 0), (.ref a2)])) rfl rfl (hb hby d8_31)
  have N3 := Fr.snoc X3 N0 hge
  have Z3 : n0 ≤ h3.size := Nat.le_trans Z0 (Nat.le_of_eq W3.size.symm)
  have K3 : Keep h0 h3 [a2] := (Keep.refl h0 [a2]).wr W3 (Or.inl (List.mem_of_getElem? (i := 0) rfl))
  have V3 : Arv Z h3 a2 kb .byte (4 : Int32) [(.int (nar .byte (c0).toInt8.toInt32)), (.int (0 : Int32)), (.int (0 : Int32)), (.int (0 : Int32))] (.int (0 : Int32)) := Arv.set Ar2 qk2 Sz2 Ng2 Hs2 Gs2 (fits_nar_byte _) W3 0 rfl (Nat.le_of_ble_eq_true rfl)
  have f4 := (hA.other W3 hne)
  obtain ⟨cl5, Ar5, qk5, Sz5, Ng5, Hs5, Gs5⟩ := id f4
  have hin5 : ¬ ((1 : Int32) < 0 ∨ cl5.slots.size ≤ ((1 : Int32)).toNatClampNeg) := inb_of Sz5 ⟨by decide, by decide⟩
  have hat5 : cl5.slots[((1 : Int32)).toNatClampNeg]? = some (.int c1) := Hs5.at hin5 rfl
  obtain ⟨cl6, Ar6, qk6, Sz6, Ng6, Hs6, Gs6⟩ := id V3
  have hin6 : ¬ ((1 : Int32) < 0 ∨ cl6.slots.size ≤ ((1 : Int32)).toNatClampNeg) := inb_of Sz6 ⟨by decide, by decide⟩
  obtain ⟨T7, h7, X7, e7, W7, st7⟩ := stB X3 hx hZ e3 Ar6 (j := (1 : Int32)) hin6 (g := (mkF m 31 #[rv a0, iv 1, rv a2, iv 1, iv 4, iv 1, iv c1] [(.int (c1).toInt8.toInt32), (.int 1), (.ref a2)])) rfl rfl (hb hby d8_31)
  have N7 := Fr.snoc X7 N3 hge
  have Z7 : n0 ≤ h7.size := Nat.le_trans Z3 (Nat.le_of_eq W7.size.symm)
  have K7 : Keep h0 h7 [a2] := K3.wr W7 (Or.inl (List.mem_of_getElem? (i := 0) rfl))
  have V7 : Arv Z h7 a2 kb .byte (4 : Int32) [(.int (nar .byte (c0).toInt8.toInt32)), (.int (nar .byte (c1).toInt8.toInt32)), (.int (0 : Int32)), (.int (0 : Int32))] (.int (0 : Int32)) := Arv.set Ar6 qk6 Sz6 Ng6 Hs6 Gs6 (fits_nar_byte _) W7 1 rfl (Nat.le_of_ble_eq_true rfl)
  have f8 := (f4.other W7 hne)
  obtain ⟨cl9, Ar9, qk9, Sz9, Ng9, Hs9, Gs9⟩ := id f8
  have hin9 : ¬ ((2 : Int32) < 0 ∨ cl9.slots.size ≤ ((2 : Int32)).toNatClampNeg) := inb_of Sz9 ⟨by decide, by decide⟩
  have hat9 : cl9.slots[((2 : Int32)).toNatClampNeg]? = some (.int c2) := Hs9.at hin9 rfl
  obtain ⟨cl10, Ar10, qk10, Sz10, Ng10, Hs10, Gs10⟩ := id V7
  have hin10 : ¬ ((2 : Int32) < 0 ∨ cl10.slots.size ≤ ((2 : Int32)).toNatClampNeg) := inb_of Sz10 ⟨by decide, by decide⟩
  obtain ⟨T11, h11, X11, e11, W11, st11⟩ := stB X7 hx hZ e7 Ar10 (j := (2 : Int32)) hin10 (g := (mkF m 31 #[rv a0, iv 2, rv a2, iv 2, iv 4, iv 2, iv c2] [(.int (c2).toInt8.toInt32), (.int 2), (.ref a2)])) rfl rfl (hb hby d8_31)
  have N11 := Fr.snoc X11 N7 hge
  have Z11 : n0 ≤ h11.size := Nat.le_trans Z7 (Nat.le_of_eq W11.size.symm)
  have K11 : Keep h0 h11 [a2] := K7.wr W11 (Or.inl (List.mem_of_getElem? (i := 0) rfl))
  have V11 : Arv Z h11 a2 kb .byte (4 : Int32) [(.int (nar .byte (c0).toInt8.toInt32)), (.int (nar .byte (c1).toInt8.toInt32)), (.int (nar .byte (c2).toInt8.toInt32)), (.int (0 : Int32))] (.int (0 : Int32)) := Arv.set Ar10 qk10 Sz10 Ng10 Hs10 Gs10 (fits_nar_byte _) W11 2 rfl (Nat.le_of_ble_eq_true rfl)
  have f12 := (f8.other W11 hne)
  obtain ⟨cl13, Ar13, qk13, Sz13, Ng13, Hs13, Gs13⟩ := id f12
  have hin13 : ¬ ((3 : Int32) < 0 ∨ cl13.slots.size ≤ ((3 : Int32)).toNatClampNeg) := inb_of Sz13 ⟨by decide, by decide⟩
  have hat13 : cl13.slots[((3 : Int32)).toNatClampNeg]? = some (.int c3) := Hs13.at hin13 rfl
  have S14 : ∀ t, oS p e below T11 (mkF m 25 #[rv a0, iv 3, rv a2, iv 3, iv 4, iv 3, iv c3] [(.int 3)]) t → oS p e below s₁ (mkF m 0 #[rv a0, iv 0, rv a2, iv 0, iv 4, .unset, .unset] []) t := fun t k => id (by
    show oS p e below s₁ (mkF m 0 #[rv a0, iv 0, rv a2, iv 0, iv 4, .unset, .unset] []) _
    refine XT.iconstV X0.here hx rfl (0 : Int32) (hb hby d8_0) (by decide) ?_
    refine XS.istore X0.here hx rfl (hb hby d8_1) rfl (l' := #[rv a0, iv 0, rv a2, iv 0, iv 4, iv 0, .unset]) rfl ?_
    refine XS.iload X0.here hx rfl (hb hby d8_3) rfl ?_
    refine XS.iload X0.here hx rfl (hb hby d8_5) rfl ?_
    refine XS.icmpNo X0.here hx rfl (hb hby d8_7) rfl (XT.ii_ge_f (by decide)) ?_
    refine XS.aloadN X0.here hx rfl (hb hby d8_10) rfl rfl ?_
    refine XS.iloadN X0.here hx rfl (hb hby d8_11) rfl ?_
    refine X0.caload hx (j := (0 : Int32)) (v := (.int c0)) (by rw [e0]; exact Ar1.1) (State.isArrayOf_alike hZ.alike Ar1.2.1) Ar1.2.2 hin1 hat1 (g := (mkF m 12 #[rv a0, iv 0, rv a2, iv 0, iv 4, iv 0, .unset] [(.int 0), (.ref a0)])) rfl rfl (hb hby d8_12) _ ?_
    refine XS.istore X0.here hx rfl (hb hby d8_13) rfl (l' := #[rv a0, iv 0, rv a2, iv 0, iv 4, iv 0, iv c0]) rfl ?_
    refine XS.iload X0.here hx rfl (hb hby d8_15) rfl ?_
    refine XT.sipushV X0.here hx rfl (255 : Int32) (hb hby d8_17) (by decide) ?_
    refine XS.icmpYes X0.here hx rfl (pc0 := 20) (pc' := 26) rfl (hb hby d8_20) rfl (XT.ii_le_t hc0) (by decide) (by decide) ?_
    refine XS.aloadN X0.here hx rfl (hb hby d8_26) rfl rfl ?_
    refine XS.iloadN X0.here hx rfl (hb hby d8_27) rfl ?_
    refine XS.iload X0.here hx rfl (hb hby d8_28) rfl ?_
    refine XT.i2b X0.here hx rfl (hb hby d8_30) rfl ?_
    refine st3 _ ?_
    refine XT.iincV X3.here hx rfl (1 : Int32) (hb hby d8_32) (by decide) rfl (l' := #[rv a0, iv 1, rv a2, iv 0, iv 4, iv 0, iv c0]) rfl ?_
    refine XT.iincV X3.here hx rfl (1 : Int32) (hb hby d8_35) (by decide) rfl (l' := #[rv a0, iv 1, rv a2, iv 1, iv 4, iv 0, iv c0]) rfl ?_
    refine XT.iincV X3.here hx rfl (1 : Int32) (hb hby d8_38) (by decide) rfl (l' := #[rv a0, iv 1, rv a2, iv 1, iv 4, iv 1, iv c0]) rfl ?_
    show oS p e below T3 (mkF m 41 #[rv a0, iv 1, rv a2, iv 1, iv 4, iv 1, iv c0] []) _
    refine XS.goto X3.here hx rfl (pc0 := 41) (pc' := 3) rfl (hb hby d8_41) (by decide) (by decide) ?_
    refine XS.iload X3.here hx rfl (hb hby d8_3) rfl ?_
    refine XS.iload X3.here hx rfl (hb hby d8_5) rfl ?_
    refine XS.icmpNo X3.here hx rfl (hb hby d8_7) rfl (XT.ii_ge_f (by decide)) ?_
    refine XS.aloadN X3.here hx rfl (hb hby d8_10) rfl rfl ?_
    refine XS.iloadN X3.here hx rfl (hb hby d8_11) rfl ?_
    refine X3.caload hx (j := (1 : Int32)) (v := (.int c1)) (by rw [e3]; exact Ar5.1) (State.isArrayOf_alike hZ.alike Ar5.2.1) Ar5.2.2 hin5 hat5 (g := (mkF m 12 #[rv a0, iv 1, rv a2, iv 1, iv 4, iv 1, iv c0] [(.int 1), (.ref a0)])) rfl rfl (hb hby d8_12) _ ?_
    refine XS.istore X3.here hx rfl (hb hby d8_13) rfl (l' := #[rv a0, iv 1, rv a2, iv 1, iv 4, iv 1, iv c1]) rfl ?_
    refine XS.iload X3.here hx rfl (hb hby d8_15) rfl ?_
    refine XT.sipushV X3.here hx rfl (255 : Int32) (hb hby d8_17) (by decide) ?_
    refine XS.icmpYes X3.here hx rfl (pc0 := 20) (pc' := 26) rfl (hb hby d8_20) rfl (XT.ii_le_t hc1) (by decide) (by decide) ?_
    refine XS.aloadN X3.here hx rfl (hb hby d8_26) rfl rfl ?_
    refine XS.iloadN X3.here hx rfl (hb hby d8_27) rfl ?_
    refine XS.iload X3.here hx rfl (hb hby d8_28) rfl ?_
    refine XT.i2b X3.here hx rfl (hb hby d8_30) rfl ?_
    refine st7 _ ?_
    refine XT.iincV X7.here hx rfl (1 : Int32) (hb hby d8_32) (by decide) rfl (l' := #[rv a0, iv 2, rv a2, iv 1, iv 4, iv 1, iv c1]) rfl ?_
    refine XT.iincV X7.here hx rfl (1 : Int32) (hb hby d8_35) (by decide) rfl (l' := #[rv a0, iv 2, rv a2, iv 2, iv 4, iv 1, iv c1]) rfl ?_
    refine XT.iincV X7.here hx rfl (1 : Int32) (hb hby d8_38) (by decide) rfl (l' := #[rv a0, iv 2, rv a2, iv 2, iv 4, iv 2, iv c1]) rfl ?_
    refine XS.goto X7.here hx rfl (pc0 := 41) (pc' := 3) rfl (hb hby d8_41) (by decide) (by decide) ?_
    show oS p e below T7 (mkF m 3 #[rv a0, iv 2, rv a2, iv 2, iv 4, iv 2, iv c1] []) _
    refine XS.iload X7.here hx rfl (hb hby d8_3) rfl ?_
    refine XS.iload X7.here hx rfl (hb hby d8_5) rfl ?_
    refine XS.icmpNo X7.here hx rfl (hb hby d8_7) rfl (XT.ii_ge_f (by decide)) ?_
    refine XS.aloadN X7.here hx rfl (hb hby d8_10) rfl rfl ?_
    refine XS.iloadN X7.here hx rfl (hb hby d8_11) rfl ?_
    refine X7.caload hx (j := (2 : Int32)) (v := (.int c2)) (by rw [e7]; exact Ar9.1) (State.isArrayOf_alike hZ.alike Ar9.2.1) Ar9.2.2 hin9 hat9 (g := (mkF m 12 #[rv a0, iv 2, rv a2, iv 2, iv 4, iv 2, iv c1] [(.int 2), (.ref a0)])) rfl rfl (hb hby d8_12) _ ?_
    refine XS.istore X7.here hx rfl (hb hby d8_13) rfl (l' := #[rv a0, iv 2, rv a2, iv 2, iv 4, iv 2, iv c2]) rfl ?_
    refine XS.iload X7.here hx rfl (hb hby d8_15) rfl ?_
    refine XT.sipushV X7.here hx rfl (255 : Int32) (hb hby d8_17) (by decide) ?_
    refine XS.icmpYes X7.here hx rfl (pc0 := 20) (pc' := 26) rfl (hb hby d8_20) rfl (XT.ii_le_t hc2) (by decide) (by decide) ?_
    refine XS.aloadN X7.here hx rfl (hb hby d8_26) rfl rfl ?_
    refine XS.iloadN X7.here hx rfl (hb hby d8_27) rfl ?_
    refine XS.iload X7.here hx rfl (hb hby d8_28) rfl ?_
    refine XT.i2b X7.here hx rfl (hb hby d8_30) rfl ?_
    refine st11 _ ?_
    refine XT.iincV X11.here hx rfl (1 : Int32) (hb hby d8_32) (by decide) rfl (l' := #[rv a0, iv 3, rv a2, iv 2, iv 4, iv 2, iv c2]) rfl ?_
    refine XT.iincV X11.here hx rfl (1 : Int32) (hb hby d8_35) (by decide) rfl (l' := #[rv a0, iv 3, rv a2, iv 3, iv 4, iv 2, iv c2]) rfl ?_
    refine XT.iincV X11.here hx rfl (1 : Int32) (hb hby d8_38) (by decide) rfl (l' := #[rv a0, iv 3, rv a2, iv 3, iv 4, iv 3, iv c2]) rfl ?_
    refine XS.goto X11.here hx rfl (pc0 := 41) (pc' := 3) rfl (hb hby d8_41) (by decide) (by decide) ?_
    refine XS.iload X11.here hx rfl (hb hby d8_3) rfl ?_
    show oS p e below T11 (mkF m 5 #[rv a0, iv 3, rv a2, iv 3, iv 4, iv 3, iv c2] [(.int 3)]) _
    refine XS.iload X11.here hx rfl (hb hby d8_5) rfl ?_
    refine XS.icmpNo X11.here hx rfl (hb hby d8_7) rfl (XT.ii_ge_f (by decide)) ?_
    refine XS.aloadN X11.here hx rfl (hb hby d8_10) rfl rfl ?_
    refine XS.iloadN X11.here hx rfl (hb hby d8_11) rfl ?_
    refine X11.caload hx (j := (3 : Int32)) (v := (.int c3)) (by rw [e11]; exact Ar13.1) (State.isArrayOf_alike hZ.alike Ar13.2.1) Ar13.2.2 hin13 hat13 (g := (mkF m 12 #[rv a0, iv 3, rv a2, iv 3, iv 4, iv 3, iv c2] [(.int 3), (.ref a0)])) rfl rfl (hb hby d8_12) _ ?_
    refine XS.istore X11.here hx rfl (hb hby d8_13) rfl (l' := #[rv a0, iv 3, rv a2, iv 3, iv 4, iv 3, iv c3]) rfl ?_
    refine XS.iload X11.here hx rfl (hb hby d8_15) rfl ?_
    refine XT.sipushV X11.here hx rfl (255 : Int32) (hb hby d8_17) (by decide) ?_
    refine XS.icmpNo X11.here hx rfl (hb hby d8_20) rfl (XT.ii_le_f hbg) ?_
    refine XS.iload X11.here hx rfl (hb hby d8_23) rfl ?_
    exact k)
  obtain ⟨fs, hr, hrun, hended, hW, hsame⟩ := X11.leave (v := some (.int 3)) (fun h => by rw [Bd.returns] at h; cases h)
  refine ⟨_, _, pre0 _ (S14 _ ?_), hrun, hended, _, _, rfl, ?_, ⟨_, rfl⟩, hW, hsame.mono (by decide) (by decide)⟩
  · exact retI X11 hx Bd.returns (hb hby d8_25) hr
  · show QrmCp5_4_3 Z a0 a2 ka kb c0 c1 c2 c3 h0 n0 _ T11.heap _
    rw [e11]
    exact ⟨congrArg (fun z => some (Value.int z)) (by decide), N11, K11, V11⟩
def QrmCp3_4_3 (Z : State) (a0 : Addr) (ka : ClassId) (c0 : Int32) (c1 : Int32) (c2 : Int32) (c3 : Int32) (h0 : Heap) (n0 : Nat) (v : Option Value) (h : Heap) (L : List Loc) : Prop := ∃ (b : Addr) (k : ClassId), v = some (.ref b) ∧ Fr n0 L ∧ h0.size ≤ b ∧ Keep h0 h [] ∧ Arv Z h b k .byte (8 : Int32) [(.int (own_lo c0)), (.int (own_hi c0)), (.int (own_lo c1)), (.int (own_hi c1)), (.int (own_lo c2)), (.int (own_hi c2)), (.int (own_lo c3)), (.int (own_hi c3))] (.int (0 : Int32))
set_option maxRecDepth 65536 in
set_option maxHeartbeats 40000000 in
theorem rmCp3_4_3 (l : Launch) (Z : State) (av0 : Array Value) (hw : ∀ d ∈ tables_1, d.before av0 Z = true) (ws : List Jvm.Cond) (a0 : Addr) (ka : ClassId) (c0 : Int32) (c1 : Int32) (c2 : Int32) (c3 : Int32) (h0 : Heap) (n0 : Nat) (Z0 : n0 ≤ h0.size) (hA : Arv Z h0 a0 ka .char (4 : Int32) [(.int c0), (.int c1), (.int c2), (.int c3)] (.int (0 : Int32))) (hc0 : ¬ (255 : Int32) < c0) (hc1 : ¬ (255 : Int32) < c1) (hc2 : ¬ (255 : Int32) < c2) (hbg : (255 : Int32) < c3) (hg : 0 ≤ c3.toInt ∧ c3.toInt < 65536) (sA : Sta Z h0 "java/lang/StringUTF16" "$assertionsDisabled" "Z" (.int (1 : Int32))) (sH : Sta Z h0 "java/lang/StringUTF16" "HI_BYTE_SHIFT" "I" (.int (0 : Int32))) (sL : Sta Z h0 "java/lang/StringUTF16" "LO_BYTE_SHIFT" "I" (.int (8 : Int32))) :
    own_Met l mN21 jdk_52_method_16_code 6 (some (.array .byte)) ws ({ frames := 3, cells := 2, slots := 12, locals := 40 } : Room) #[(.ref a0), (.int 0), (.int 4)] Z h0 (QrmCp3_4_3 Z a0 ka c0 c1 c2 c3 h0 n0) := by
  refine MetFree.of_bodySF (plainFor_of_name pn_StringUTF16) hisR ?_
  intro p e s m args below meth c s₁ Bd hml0 hP hK
  obtain ⟨rfl, hZ, hh⟩ := hP
  have hml : c.maxLocals = 6 := hml0
  obtain ⟨hx, hby, hown, hnm, X0, e0⟩ := own_start Bd hml0 hh
  have N0 := Fr.nil n0
  have pre0 : ∀ t, oS p e below s₁ (mkF m 0 #[rv a0, iv 0, iv 4, .unset, .unset, .unset] []) t → Steps p.tables e below (s₁.setTop (entryFrame m #[(.ref a0), (.int 0), (.int 4)] 6)) t := fun t k => castTop (by first | (simp [entryFrame, mkF, argsToLocals, Value.category]; done) | rfl) k
  obtain ⟨T1, h1, k1, X1, e1, E1, A1, st1⟩ := newP X0 hx hZ (hw _ (own_w 16 rfl)) e0 (g := (mkF m 1 #[rv a0, iv 0, iv 4, .unset, .unset, .unset] [(.int 4)])) rfl (hb hby d7_1) rfl (by decide) (cap := 4) (by decide) (by decide) (by decide) (by decide)
  obtain ⟨b1, g1⟩ : ∃ z, z = h0.size := ⟨_, rfl⟩
  rw [← g1] at A1 st1
  have ne_a0_b1 : a0 ≠ b1 := Nat.ne_of_lt (Nat.lt_of_lt_of_le hA.lt (Nat.le_of_eq g1.symm))
  have ge_b1 : n0 ≤ b1 := Nat.le_trans Z0 (Nat.le_of_eq g1.symm)
  have sz_b1 : h0.size ≤ b1 := Nat.le_of_eq g1.symm
  have Z1 : n0 ≤ h1.size := Nat.le_trans Z0 E1.1
  have K1 : Keep h0 h1 [] := (Keep.refl h0 []).ext E1
  have V1 : Arv Z h1 b1 k1 .byte (4 : Int32) [(.int (0 : Int32)), (.int (0 : Int32)), (.int (0 : Int32)), (.int (0 : Int32))] (.int (0 : Int32)) := (Arv.new A1 (by decide)).pad (pad_rep [] (.int (0 : Int32)) 4)
  have f2 := (hA.ext E1)
  obtain ⟨_, T3, Lc3, X3, hQ3, st3⟩ := own_callS (W := 0) (y := mN16) X1 hx hZ hown (hw _ (own_w 42 rfl)) (hw _ (own_w 43 rfl)) (hw _ (own_w 40 rfl)) (hw _ (own_w 44 rfl)) (by decide) (rmCp5_4_3 l Z av0 hw [] a0 b1 ka k1 c0 c1 c2 c3 h1 n0 Z1 f2 V1 ne_a0_b1 ge_b1 hc0 hc1 hc2 hbg) (by decide) (by decide) (g := (mkF m 9 #[rv a0, iv 0, iv 4, rv b1, .unset, .unset] [(.int 4), (.int 0), (.ref b1), (.int 0), (.ref a0)])) rfl (by rw [hml]; rfl) (argsL := [(.ref a0), (.int 0), (.ref b1), (.int 0), (.int 4)]) (rest := []) (lenOf pd__CI_BII_I rfl) rfl (hb hby d7_9) rfl e1 (by decide : 1 + 0 ≤ _) (by decide : 4 + 0 ≤ _)
  obtain ⟨rfl, N3q, K3, V3⟩ := hQ3
  have N3 := Fr.app N0 N3q
  have e3 : T3.heap = T3.heap := rfl
  have Zk3 : n0 ≤ T3.heap.size := Nat.le_trans Z1 K3.1
  have Kk3 : Keep h0 T3.heap [] := K1.trans K3 (allS (Or.inr sz_b1) all0)
  have f4 := (f2.keep K3 (ninS ne_a0_b1 nin0))
  have f5 := (own_stak (sA.ext E1) K3 (allS (own_arns V1) all0))
  have f6 := (own_stak (sH.ext E1) K3 (allS (own_arns V1) all0))
  have f7 := (own_stak (sL.ext E1) K3 (allS (own_arns V1) all0))
  obtain ⟨_, T8, Lc8, X8, hQ8, st8⟩ := own_callS (W := 0) (y := mN20) X3 hx hZ hown (hw _ (own_w 78 rfl)) (hw _ (own_w 79 rfl)) (hw _ (own_w 40 rfl)) (hw _ (own_w 80 rfl)) (by decide) (rmTb_4 l Z av0 hw [] a0 ka c0 c1 c2 c3 T3.heap n0 Zk3 f4 f5 f6 f7) (by decide) (by decide) (g := (mkF m 23 #[rv a0, iv 0, iv 4, rv b1, iv 3, .unset] [(.int 4), (.int 0), (.ref a0)])) rfl (by rw [hml]; rfl) (argsL := [(.ref a0), (.int 0), (.int 4)]) (rest := []) (lenOf pd__CII_B rfl) rfl (hb hby d7_23) rfl e3 (by decide : 1 + 1 ≤ _) (by decide : 4 + 8 ≤ _)
  obtain ⟨b8, kb8, rfl, N8q, gb8, K8, V8⟩ := hQ8
  have N8 := Fr.app N3 N8q
  have e8 : T8.heap = T8.heap := rfl
  have ne_a0_b8 : a0 ≠ b8 := Nat.ne_of_lt (Nat.lt_of_lt_of_le f4.lt gb8)
  have ne_b1_b8 : b1 ≠ b8 := Nat.ne_of_lt (Nat.lt_of_lt_of_le V3.lt gb8)
  have ge_b8 : n0 ≤ b8 := Nat.le_trans Zk3 gb8
  have sz_b8 : h0.size ≤ b8 := Nat.le_trans Kk3.1 gb8
  have Zk8 : n0 ≤ T8.heap.size := Nat.le_trans Zk3 K8.1
  have Kk8 : Keep h0 T8.heap [] := Kk3.trans K8 all0
  have f9 := (own_stak f5 K8 all0)
  have f10 := (own_stak f6 K8 all0)
  have f11 := (own_stak f7 K8 all0)
  obtain ⟨_, T12, Lc12, X12, hQ12, st12⟩ := own_callS (W := 0) (y := mN12) X8 hx hZ hown (hw _ (own_w 94 rfl)) (hw _ (own_w 95 rfl)) (hw _ (own_w 40 rfl)) (hw _ (own_w 96 rfl)) (by decide) (rmGc l Z av0 hw [] b8 kb8 (8 : Int32) [(.int (own_lo c0)), (.int (own_hi c0)), (.int (own_lo c1)), (.int (own_hi c1)), (.int (own_lo c2)), (.int (own_hi c2)), (.int (own_lo c3)), (.int (own_hi c3))] (3 : Int32) (own_lo c3) (own_hi c3) T8.heap n0 Zk8 V8 f9 f10 f11 (by decide) (by decide) rfl rfl) (by decide) (by decide) (g := (mkF m 32 #[rv a0, iv 0, iv 4, rv b1, iv 3, rv b8] [(.int 3), (.ref b8)])) rfl (by rw [hml]; rfl) (argsL := [(.ref b8), (.int 3)]) (rest := []) (lenOf pd__BI_C rfl) rfl (hb hby d7_32) rfl e8 (by decide : 2 + 0 ≤ _) (by decide : 12 + 0 ≤ _)
  obtain ⟨rfl, N12q, hh12⟩ := hQ12
  have N12 := Fr.app N8 N12q
  have e12 : T12.heap = T8.heap := hh12
  have S13 : ∀ t, oS p e below T12 (mkF m 56 #[rv a0, iv 0, iv 4, rv b1, iv 3, rv b8] [(.ref b8)]) t → oS p e below s₁ (mkF m 0 #[rv a0, iv 0, iv 4, .unset, .unset, .unset] []) t := fun t k => id (by
    show oS p e below s₁ (mkF m 0 #[rv a0, iv 0, iv 4, .unset, .unset, .unset] []) _
    refine XS.iloadN X0.here hx rfl (hb hby d7_0) rfl ?_
    refine st1 _ ?_
    refine XS.astoreN X1.here hx rfl (hb hby d7_3) rfl rfl (l' := #[rv a0, iv 0, iv 4, rv b1, .unset, .unset]) rfl ?_
    refine XS.aloadN X1.here hx rfl (hb hby d7_4) rfl rfl ?_
    refine XS.iloadN X1.here hx rfl (hb hby d7_5) rfl ?_
    refine XS.aloadN X1.here hx rfl (hb hby d7_6) rfl rfl ?_
    refine XT.iconstV X1.here hx rfl (0 : Int32) (hb hby d7_7) (by decide) ?_
    refine XS.iloadN X1.here hx rfl (hb hby d7_8) rfl ?_
    refine st3 _ ?_
    refine XS.istore X3.here hx rfl (hb hby d7_12) rfl (l' := #[rv a0, iv 0, iv 4, rv b1, iv 3, .unset]) rfl ?_
    refine XS.iload X3.here hx rfl (hb hby d7_14) rfl ?_
    refine XS.iloadN X3.here hx rfl (hb hby d7_16) rfl ?_
    refine XS.icmpNo X3.here hx rfl (hb hby d7_17) rfl (XT.ii_eq_f (by decide)) ?_
    refine XS.aloadN X3.here hx rfl (hb hby d7_20) rfl rfl ?_
    refine XS.iloadN X3.here hx rfl (hb hby d7_21) rfl ?_
    refine XS.iloadN X3.here hx rfl (hb hby d7_22) rfl ?_
    refine st8 _ ?_
    refine XS.astore X8.here hx rfl (hb hby d7_26) rfl rfl (l' := #[rv a0, iv 0, iv 4, rv b1, iv 3, rv b8]) rfl ?_
    refine XS.aload X8.here hx rfl (hb hby d7_28) rfl rfl ?_
    refine XS.iload X8.here hx rfl (hb hby d7_30) rfl ?_
    show oS p e below T8 (mkF m 32 #[rv a0, iv 0, iv 4, rv b1, iv 3, rv b8] [(.int 3), (.ref b8)]) _
    refine st12 _ ?_
    refine XT.sipushV X12.here hx rfl (255 : Int32) (hb hby d7_35) (by decide) ?_
    refine XS.icmpYes X12.here hx rfl (pc0 := 38) (pc' := 54) rfl (hb hby d7_38) rfl (XT.ii_gt_t (by rw [own_gcv c3 hg.1 hg.2]; exact hbg)) (by decide) (by decide) ?_
    refine XS.aload X12.here hx rfl (hb hby d7_54) rfl rfl ?_
    exact k)
  obtain ⟨fs, hr, hrun, hended, hW, hsame⟩ := X12.leave (v := some (.ref b8)) (fun h => by rw [Bd.returns] at h; cases h)
  refine ⟨_, _, pre0 _ (S13 _ ?_), hrun, hended, _, _, rfl, ?_, ⟨_, rfl⟩, hW, hsame.mono (by decide) (by decide)⟩
  · jvm_step X12.here [X12.here.top, hx, (hb hby d7_56), X12.method', Bd.returns, Value.isRef, FieldType.isReference]
    first | (intro acts; rw [hr _ acts rfl rfl rfl]) | rw [hr _ _ rfl rfl rfl]
    exact Steps.refl _
  · show QrmCp3_4_3 Z a0 ka c0 c1 c2 c3 h0 n0 _ T12.heap _
    rw [e12]
    exact ⟨_, _, rfl, N12, sz_b8, Kk8, V8⟩
def QrmCp5_4_4 (Z : State) (a0 : Addr) (a2 : Addr) (ka : ClassId) (kb : ClassId) (c0 : Int32) (c1 : Int32) (c2 : Int32) (c3 : Int32) (h0 : Heap) (n0 : Nat) (v : Option Value) (h : Heap) (L : List Loc) : Prop := v = some (.int (4 : Int32)) ∧ Fr n0 L ∧ Keep h0 h [a2] ∧ Arv Z h a2 kb .byte (4 : Int32) [(.int (own_b c0)), (.int (own_b c1)), (.int (own_b c2)), (.int (own_b c3))] (.int (0 : Int32))
set_option maxRecDepth 65536 in
set_option maxHeartbeats 40000000 in
theorem rmCp5_4_4 (l : Launch) (Z : State) (av0 : Array Value) (hw : ∀ d ∈ tables_1, d.before av0 Z = true) (ws : List Jvm.Cond) (a0 : Addr) (a2 : Addr) (ka : ClassId) (kb : ClassId) (c0 : Int32) (c1 : Int32) (c2 : Int32) (c3 : Int32) (h0 : Heap) (n0 : Nat) (Z0 : n0 ≤ h0.size) (hA : Arv Z h0 a0 ka .char (4 : Int32) [(.int c0), (.int c1), (.int c2), (.int c3)] (.int (0 : Int32))) (hB : Arv Z h0 a2 kb .byte (4 : Int32) [(.int (0 : Int32)), (.int (0 : Int32)), (.int (0 : Int32)), (.int (0 : Int32))] (.int (0 : Int32))) (hne : a0 ≠ a2) (hge : n0 ≤ a2) (hc0 : ¬ (255 : Int32) < c0) (hc1 : ¬ (255 : Int32) < c1) (hc2 : ¬ (255 : Int32) < c2) (hc3 : ¬ (255 : Int32) < c3) :
    own_Met l mN16 jdk_52_method_21_code 7 (some .int) ws ({ frames := 0, cells := 0, slots := 0, locals := 0 } : Room) #[(.ref a0), (.int 0), (.ref a2), (.int 0), (.int 4)] Z h0 (QrmCp5_4_4 Z a0 a2 ka kb c0 c1 c2 c3 h0 n0) := by
  refine MetFree.of_bodySF (plainFor_of_name pn_StringUTF16) hisR ?_
  intro p e s m args below meth c s₁ Bd hml0 hP hK
  obtain ⟨rfl, hZ, hh⟩ := hP
  have hml : c.maxLocals = 7 := hml0
  obtain ⟨hx, hby, hown, hnm, X0, e0⟩ := own_start Bd hml0 hh
  have N0 := Fr.nil n0
  have pre0 : ∀ t, oS p e below s₁ (mkF m 0 #[rv a0, iv 0, rv a2, iv 0, iv 4, .unset, .unset] []) t → Steps p.tables e below (s₁.setTop (entryFrame m #[(.ref a0), (.int 0), (.ref a2), (.int 0), (.int 4)] 7)) t := fun t k => castTop (by first | (simp [entryFrame, mkF, argsToLocals, Value.category]; done) | rfl) k
  obtain ⟨cl1, Ar1, qk1, Sz1, Ng1, Hs1, Gs1⟩ := id hA
  have hin1 : ¬ ((0 : Int32) < 0 ∨ cl1.slots.size ≤ ((0 : Int32)).toNatClampNeg) := inb_of Sz1 ⟨by decide, by decide⟩
  have hat1 : cl1.slots[((0 : Int32)).toNatClampNeg]? = some (.int c0) := Hs1.at hin1 rfl
  obtain ⟨cl2, Ar2, qk2, Sz2, Ng2, Hs2, Gs2⟩ := id hB
  have hin2 : ¬ ((0 : Int32) < 0 ∨ cl2.slots.size ≤ ((0 : Int32)).toNatClampNeg) := inb_of Sz2 ⟨by decide, by decide⟩
  obtain ⟨T3, h3, X3, e3, W3, st3⟩ := stB X0 hx hZ e0 Ar2 (j := (0 : Int32)) hin2 (g := (mkF m 31 #[rv a0, iv 0, rv a2, iv 0, iv 4, iv 0, iv c0] [(.int (c0).toInt8.toInt32), (.int 0), (.ref a2)])) rfl rfl (hb hby d8_31)
  have N3 := Fr.snoc X3 N0 hge
  have Z3 : n0 ≤ h3.size := Nat.le_trans Z0 (Nat.le_of_eq W3.size.symm)
  have K3 : Keep h0 h3 [a2] := (Keep.refl h0 [a2]).wr W3 (Or.inl (List.mem_of_getElem? (i := 0) rfl))
  have V3 : Arv Z h3 a2 kb .byte (4 : Int32) [(.int (nar .byte (c0).toInt8.toInt32)), (.int (0 : Int32)), (.int (0 : Int32)), (.int (0 : Int32))] (.int (0 : Int32)) := Arv.set Ar2 qk2 Sz2 Ng2 Hs2 Gs2 (fits_nar_byte _) W3 0 rfl (Nat.le_of_ble_eq_true rfl)
  have f4 := (hA.other W3 hne)
  obtain ⟨cl5, Ar5, qk5, Sz5, Ng5, Hs5, Gs5⟩ := id f4
  have hin5 : ¬ ((1 : Int32) < 0 ∨ cl5.slots.size ≤ ((1 : Int32)).toNatClampNeg) := inb_of Sz5 ⟨by decide, by decide⟩
  have hat5 : cl5.slots[((1 : Int32)).toNatClampNeg]? = some (.int c1) := Hs5.at hin5 rfl
  obtain ⟨cl6, Ar6, qk6, Sz6, Ng6, Hs6, Gs6⟩ := id V3
  have hin6 : ¬ ((1 : Int32) < 0 ∨ cl6.slots.size ≤ ((1 : Int32)).toNatClampNeg) := inb_of Sz6 ⟨by decide, by decide⟩
  obtain ⟨T7, h7, X7, e7, W7, st7⟩ := stB X3 hx hZ e3 Ar6 (j := (1 : Int32)) hin6 (g := (mkF m 31 #[rv a0, iv 1, rv a2, iv 1, iv 4, iv 1, iv c1] [(.int (c1).toInt8.toInt32), (.int 1), (.ref a2)])) rfl rfl (hb hby d8_31)
  have N7 := Fr.snoc X7 N3 hge
  have Z7 : n0 ≤ h7.size := Nat.le_trans Z3 (Nat.le_of_eq W7.size.symm)
  have K7 : Keep h0 h7 [a2] := K3.wr W7 (Or.inl (List.mem_of_getElem? (i := 0) rfl))
  have V7 : Arv Z h7 a2 kb .byte (4 : Int32) [(.int (nar .byte (c0).toInt8.toInt32)), (.int (nar .byte (c1).toInt8.toInt32)), (.int (0 : Int32)), (.int (0 : Int32))] (.int (0 : Int32)) := Arv.set Ar6 qk6 Sz6 Ng6 Hs6 Gs6 (fits_nar_byte _) W7 1 rfl (Nat.le_of_ble_eq_true rfl)
  have f8 := (f4.other W7 hne)
  obtain ⟨cl9, Ar9, qk9, Sz9, Ng9, Hs9, Gs9⟩ := id f8
  have hin9 : ¬ ((2 : Int32) < 0 ∨ cl9.slots.size ≤ ((2 : Int32)).toNatClampNeg) := inb_of Sz9 ⟨by decide, by decide⟩
  have hat9 : cl9.slots[((2 : Int32)).toNatClampNeg]? = some (.int c2) := Hs9.at hin9 rfl
  obtain ⟨cl10, Ar10, qk10, Sz10, Ng10, Hs10, Gs10⟩ := id V7
  have hin10 : ¬ ((2 : Int32) < 0 ∨ cl10.slots.size ≤ ((2 : Int32)).toNatClampNeg) := inb_of Sz10 ⟨by decide, by decide⟩
  obtain ⟨T11, h11, X11, e11, W11, st11⟩ := stB X7 hx hZ e7 Ar10 (j := (2 : Int32)) hin10 (g := (mkF m 31 #[rv a0, iv 2, rv a2, iv 2, iv 4, iv 2, iv c2] [(.int (c2).toInt8.toInt32), (.int 2), (.ref a2)])) rfl rfl (hb hby d8_31)
  have N11 := Fr.snoc X11 N7 hge
  have Z11 : n0 ≤ h11.size := Nat.le_trans Z7 (Nat.le_of_eq W11.size.symm)
  have K11 : Keep h0 h11 [a2] := K7.wr W11 (Or.inl (List.mem_of_getElem? (i := 0) rfl))
  have V11 : Arv Z h11 a2 kb .byte (4 : Int32) [(.int (nar .byte (c0).toInt8.toInt32)), (.int (nar .byte (c1).toInt8.toInt32)), (.int (nar .byte (c2).toInt8.toInt32)), (.int (0 : Int32))] (.int (0 : Int32)) := Arv.set Ar10 qk10 Sz10 Ng10 Hs10 Gs10 (fits_nar_byte _) W11 2 rfl (Nat.le_of_ble_eq_true rfl)
  have f12 := (f8.other W11 hne)
  obtain ⟨cl13, Ar13, qk13, Sz13, Ng13, Hs13, Gs13⟩ := id f12
  have hin13 : ¬ ((3 : Int32) < 0 ∨ cl13.slots.size ≤ ((3 : Int32)).toNatClampNeg) := inb_of Sz13 ⟨by decide, by decide⟩
  have hat13 : cl13.slots[((3 : Int32)).toNatClampNeg]? = some (.int c3) := Hs13.at hin13 rfl
  obtain ⟨cl14, Ar14, qk14, Sz14, Ng14, Hs14, Gs14⟩ := id V11
  have hin14 : ¬ ((3 : Int32) < 0 ∨ cl14.slots.size ≤ ((3 : Int32)).toNatClampNeg) := inb_of Sz14 ⟨by decide, by decide⟩
  obtain ⟨T15, h15, X15, e15, W15, st15⟩ := stB X11 hx hZ e11 Ar14 (j := (3 : Int32)) hin14 (g := (mkF m 31 #[rv a0, iv 3, rv a2, iv 3, iv 4, iv 3, iv c3] [(.int (c3).toInt8.toInt32), (.int 3), (.ref a2)])) rfl rfl (hb hby d8_31)
  have N15 := Fr.snoc X15 N11 hge
  have Z15 : n0 ≤ h15.size := Nat.le_trans Z11 (Nat.le_of_eq W15.size.symm)
  have K15 : Keep h0 h15 [a2] := K11.wr W15 (Or.inl (List.mem_of_getElem? (i := 0) rfl))
  have V15 : Arv Z h15 a2 kb .byte (4 : Int32) [(.int (nar .byte (c0).toInt8.toInt32)), (.int (nar .byte (c1).toInt8.toInt32)), (.int (nar .byte (c2).toInt8.toInt32)), (.int (nar .byte (c3).toInt8.toInt32))] (.int (0 : Int32)) := Arv.set Ar14 qk14 Sz14 Ng14 Hs14 Gs14 (fits_nar_byte _) W15 3 rfl (Nat.le_of_ble_eq_true rfl)
  have S16 : ∀ t, oS p e below T15 (mkF m 46 #[rv a0, iv 4, rv a2, iv 4, iv 4, iv 4, iv c3] [(.int 4)]) t → oS p e below s₁ (mkF m 0 #[rv a0, iv 0, rv a2, iv 0, iv 4, .unset, .unset] []) t := fun t k => id (by
    show oS p e below s₁ (mkF m 0 #[rv a0, iv 0, rv a2, iv 0, iv 4, .unset, .unset] []) _
    refine XT.iconstV X0.here hx rfl (0 : Int32) (hb hby d8_0) (by decide) ?_
    refine XS.istore X0.here hx rfl (hb hby d8_1) rfl (l' := #[rv a0, iv 0, rv a2, iv 0, iv 4, iv 0, .unset]) rfl ?_
    refine XS.iload X0.here hx rfl (hb hby d8_3) rfl ?_
    refine XS.iload X0.here hx rfl (hb hby d8_5) rfl ?_
    refine XS.icmpNo X0.here hx rfl (hb hby d8_7) rfl (XT.ii_ge_f (by decide)) ?_
    refine XS.aloadN X0.here hx rfl (hb hby d8_10) rfl rfl ?_
    refine XS.iloadN X0.here hx rfl (hb hby d8_11) rfl ?_
    refine X0.caload hx (j := (0 : Int32)) (v := (.int c0)) (by rw [e0]; exact Ar1.1) (State.isArrayOf_alike hZ.alike Ar1.2.1) Ar1.2.2 hin1 hat1 (g := (mkF m 12 #[rv a0, iv 0, rv a2, iv 0, iv 4, iv 0, .unset] [(.int 0), (.ref a0)])) rfl rfl (hb hby d8_12) _ ?_
    refine XS.istore X0.here hx rfl (hb hby d8_13) rfl (l' := #[rv a0, iv 0, rv a2, iv 0, iv 4, iv 0, iv c0]) rfl ?_
    refine XS.iload X0.here hx rfl (hb hby d8_15) rfl ?_
    refine XT.sipushV X0.here hx rfl (255 : Int32) (hb hby d8_17) (by decide) ?_
    refine XS.icmpYes X0.here hx rfl (pc0 := 20) (pc' := 26) rfl (hb hby d8_20) rfl (XT.ii_le_t hc0) (by decide) (by decide) ?_
    refine XS.aloadN X0.here hx rfl (hb hby d8_26) rfl rfl ?_
    refine XS.iloadN X0.here hx rfl (hb hby d8_27) rfl ?_
    refine XS.iload X0.here hx rfl (hb hby d8_28) rfl ?_
    refine XT.i2b X0.here hx rfl (hb hby d8_30) rfl ?_
    refine st3 _ ?_
    refine XT.iincV X3.here hx rfl (1 : Int32) (hb hby d8_32) (by decide) rfl (l' := #[rv a0, iv 1, rv a2, iv 0, iv 4, iv 0, iv c0]) rfl ?_
    refine XT.iincV X3.here hx rfl (1 : Int32) (hb hby d8_35) (by decide) rfl (l' := #[rv a0, iv 1, rv a2, iv 1, iv 4, iv 0, iv c0]) rfl ?_
    refine XT.iincV X3.here hx rfl (1 : Int32) (hb hby d8_38) (by decide) rfl (l' := #[rv a0, iv 1, rv a2, iv 1, iv 4, iv 1, iv c0]) rfl ?_
    show oS p e below T3 (mkF m 41 #[rv a0, iv 1, rv a2, iv 1, iv 4, iv 1, iv c0] []) _
    refine XS.goto X3.here hx rfl (pc0 := 41) (pc' := 3) rfl (hb hby d8_41) (by decide) (by decide) ?_
    refine XS.iload X3.here hx rfl (hb hby d8_3) rfl ?_
    refine XS.iload X3.here hx rfl (hb hby d8_5) rfl ?_
    refine XS.icmpNo X3.here hx rfl (hb hby d8_7) rfl (XT.ii_ge_f (by decide)) ?_
    refine XS.aloadN X3.here hx rfl (hb hby d8_10) rfl rfl ?_
    refine XS.iloadN X3.here hx rfl (hb hby d8_11) rfl ?_
    refine X3.caload hx (j := (1 : Int32)) (v := (.int c1)) (by rw [e3]; exact Ar5.1) (State.isArrayOf_alike hZ.alike Ar5.2.1) Ar5.2.2 hin5 hat5 (g := (mkF m 12 #[rv a0, iv 1, rv a2, iv 1, iv 4, iv 1, iv c0] [(.int 1), (.ref a0)])) rfl rfl (hb hby d8_12) _ ?_
    refine XS.istore X3.here hx rfl (hb hby d8_13) rfl (l' := #[rv a0, iv 1, rv a2, iv 1, iv 4, iv 1, iv c1]) rfl ?_
    refine XS.iload X3.here hx rfl (hb hby d8_15) rfl ?_
    refine XT.sipushV X3.here hx rfl (255 : Int32) (hb hby d8_17) (by decide) ?_
    refine XS.icmpYes X3.here hx rfl (pc0 := 20) (pc' := 26) rfl (hb hby d8_20) rfl (XT.ii_le_t hc1) (by decide) (by decide) ?_
    refine XS.aloadN X3.here hx rfl (hb hby d8_26) rfl rfl ?_
    refine XS.iloadN X3.here hx rfl (hb hby d8_27) rfl ?_
    refine XS.iload X3.here hx rfl (hb hby d8_28) rfl ?_
    refine XT.i2b X3.here hx rfl (hb hby d8_30) rfl ?_
    refine st7 _ ?_
    refine XT.iincV X7.here hx rfl (1 : Int32) (hb hby d8_32) (by decide) rfl (l' := #[rv a0, iv 2, rv a2, iv 1, iv 4, iv 1, iv c1]) rfl ?_
    refine XT.iincV X7.here hx rfl (1 : Int32) (hb hby d8_35) (by decide) rfl (l' := #[rv a0, iv 2, rv a2, iv 2, iv 4, iv 1, iv c1]) rfl ?_
    refine XT.iincV X7.here hx rfl (1 : Int32) (hb hby d8_38) (by decide) rfl (l' := #[rv a0, iv 2, rv a2, iv 2, iv 4, iv 2, iv c1]) rfl ?_
    refine XS.goto X7.here hx rfl (pc0 := 41) (pc' := 3) rfl (hb hby d8_41) (by decide) (by decide) ?_
    show oS p e below T7 (mkF m 3 #[rv a0, iv 2, rv a2, iv 2, iv 4, iv 2, iv c1] []) _
    refine XS.iload X7.here hx rfl (hb hby d8_3) rfl ?_
    refine XS.iload X7.here hx rfl (hb hby d8_5) rfl ?_
    refine XS.icmpNo X7.here hx rfl (hb hby d8_7) rfl (XT.ii_ge_f (by decide)) ?_
    refine XS.aloadN X7.here hx rfl (hb hby d8_10) rfl rfl ?_
    refine XS.iloadN X7.here hx rfl (hb hby d8_11) rfl ?_
    refine X7.caload hx (j := (2 : Int32)) (v := (.int c2)) (by rw [e7]; exact Ar9.1) (State.isArrayOf_alike hZ.alike Ar9.2.1) Ar9.2.2 hin9 hat9 (g := (mkF m 12 #[rv a0, iv 2, rv a2, iv 2, iv 4, iv 2, iv c1] [(.int 2), (.ref a0)])) rfl rfl (hb hby d8_12) _ ?_
    refine XS.istore X7.here hx rfl (hb hby d8_13) rfl (l' := #[rv a0, iv 2, rv a2, iv 2, iv 4, iv 2, iv c2]) rfl ?_
    refine XS.iload X7.here hx rfl (hb hby d8_15) rfl ?_
    refine XT.sipushV X7.here hx rfl (255 : Int32) (hb hby d8_17) (by decide) ?_
    refine XS.icmpYes X7.here hx rfl (pc0 := 20) (pc' := 26) rfl (hb hby d8_20) rfl (XT.ii_le_t hc2) (by decide) (by decide) ?_
    refine XS.aloadN X7.here hx rfl (hb hby d8_26) rfl rfl ?_
    refine XS.iloadN X7.here hx rfl (hb hby d8_27) rfl ?_
    refine XS.iload X7.here hx rfl (hb hby d8_28) rfl ?_
    refine XT.i2b X7.here hx rfl (hb hby d8_30) rfl ?_
    refine st11 _ ?_
    refine XT.iincV X11.here hx rfl (1 : Int32) (hb hby d8_32) (by decide) rfl (l' := #[rv a0, iv 3, rv a2, iv 2, iv 4, iv 2, iv c2]) rfl ?_
    refine XT.iincV X11.here hx rfl (1 : Int32) (hb hby d8_35) (by decide) rfl (l' := #[rv a0, iv 3, rv a2, iv 3, iv 4, iv 2, iv c2]) rfl ?_
    refine XT.iincV X11.here hx rfl (1 : Int32) (hb hby d8_38) (by decide) rfl (l' := #[rv a0, iv 3, rv a2, iv 3, iv 4, iv 3, iv c2]) rfl ?_
    refine XS.goto X11.here hx rfl (pc0 := 41) (pc' := 3) rfl (hb hby d8_41) (by decide) (by decide) ?_
    refine XS.iload X11.here hx rfl (hb hby d8_3) rfl ?_
    show oS p e below T11 (mkF m 5 #[rv a0, iv 3, rv a2, iv 3, iv 4, iv 3, iv c2] [(.int 3)]) _
    refine XS.iload X11.here hx rfl (hb hby d8_5) rfl ?_
    refine XS.icmpNo X11.here hx rfl (hb hby d8_7) rfl (XT.ii_ge_f (by decide)) ?_
    refine XS.aloadN X11.here hx rfl (hb hby d8_10) rfl rfl ?_
    refine XS.iloadN X11.here hx rfl (hb hby d8_11) rfl ?_
    refine X11.caload hx (j := (3 : Int32)) (v := (.int c3)) (by rw [e11]; exact Ar13.1) (State.isArrayOf_alike hZ.alike Ar13.2.1) Ar13.2.2 hin13 hat13 (g := (mkF m 12 #[rv a0, iv 3, rv a2, iv 3, iv 4, iv 3, iv c2] [(.int 3), (.ref a0)])) rfl rfl (hb hby d8_12) _ ?_
    refine XS.istore X11.here hx rfl (hb hby d8_13) rfl (l' := #[rv a0, iv 3, rv a2, iv 3, iv 4, iv 3, iv c3]) rfl ?_
    refine XS.iload X11.here hx rfl (hb hby d8_15) rfl ?_
    refine XT.sipushV X11.here hx rfl (255 : Int32) (hb hby d8_17) (by decide) ?_
    refine XS.icmpYes X11.here hx rfl (pc0 := 20) (pc' := 26) rfl (hb hby d8_20) rfl (XT.ii_le_t hc3) (by decide) (by decide) ?_
    refine XS.aloadN X11.here hx rfl (hb hby d8_26) rfl rfl ?_
    refine XS.iloadN X11.here hx rfl (hb hby d8_27) rfl ?_
    refine XS.iload X11.here hx rfl (hb hby d8_28) rfl ?_
    refine XT.i2b X11.here hx rfl (hb hby d8_30) rfl ?_
    refine st15 _ ?_
    refine XT.iincV X15.here hx rfl (1 : Int32) (hb hby d8_32) (by decide) rfl (l' := #[rv a0, iv 4, rv a2, iv 3, iv 4, iv 3, iv c3]) rfl ?_
    refine XT.iincV X15.here hx rfl (1 : Int32) (hb hby d8_35) (by decide) rfl (l' := #[rv a0, iv 4, rv a2, iv 4, iv 4, iv 3, iv c3]) rfl ?_
    refine XT.iincV X15.here hx rfl (1 : Int32) (hb hby d8_38) (by decide) rfl (l' := #[rv a0, iv 4, rv a2, iv 4, iv 4, iv 4, iv c3]) rfl ?_
    refine XS.goto X15.here hx rfl (pc0 := 41) (pc' := 3) rfl (hb hby d8_41) (by decide) (by decide) ?_
    refine XS.iload X15.here hx rfl (hb hby d8_3) rfl ?_
    refine XS.iload X15.here hx rfl (hb hby d8_5) rfl ?_
    show oS p e below T15 (mkF m 7 #[rv a0, iv 4, rv a2, iv 4, iv 4, iv 4, iv c3] [(.int 4), (.int 4)]) _
    refine XS.icmpYes X15.here hx rfl (pc0 := 7) (pc' := 44) rfl (hb hby d8_7) rfl (XT.ii_ge_t (by decide)) (by decide) (by decide) ?_
    refine XS.iload X15.here hx rfl (hb hby d8_44) rfl ?_
    exact k)
  obtain ⟨fs, hr, hrun, hended, hW, hsame⟩ := X15.leave (v := some (.int 4)) (fun h => by rw [Bd.returns] at h; cases h)
  refine ⟨_, _, pre0 _ (S16 _ ?_), hrun, hended, _, _, rfl, ?_, ⟨_, rfl⟩, hW, hsame.mono (by decide) (by decide)⟩
  · exact retI X15 hx Bd.returns (hb hby d8_46) hr
  · show QrmCp5_4_4 Z a0 a2 ka kb c0 c1 c2 c3 h0 n0 _ T15.heap _
    rw [e15]
    exact ⟨congrArg (fun z => some (Value.int z)) (by decide), N15, K15, V15⟩
def QrmCp3_4_4 (Z : State) (a0 : Addr) (ka : ClassId) (c0 : Int32) (c1 : Int32) (c2 : Int32) (c3 : Int32) (h0 : Heap) (n0 : Nat) (v : Option Value) (h : Heap) (L : List Loc) : Prop := ∃ (b : Addr) (k : ClassId), v = some (.ref b) ∧ Fr n0 L ∧ h0.size ≤ b ∧ Keep h0 h [] ∧ Arv Z h b k .byte (4 : Int32) [(.int (own_b c0)), (.int (own_b c1)), (.int (own_b c2)), (.int (own_b c3))] (.int (0 : Int32))
set_option maxRecDepth 65536 in
set_option maxHeartbeats 40000000 in
theorem rmCp3_4_4 (l : Launch) (Z : State) (av0 : Array Value) (hw : ∀ d ∈ tables_1, d.before av0 Z = true) (ws : List Jvm.Cond) (a0 : Addr) (ka : ClassId) (c0 : Int32) (c1 : Int32) (c2 : Int32) (c3 : Int32) (h0 : Heap) (n0 : Nat) (Z0 : n0 ≤ h0.size) (hA : Arv Z h0 a0 ka .char (4 : Int32) [(.int c0), (.int c1), (.int c2), (.int c3)] (.int (0 : Int32))) (hc0 : ¬ (255 : Int32) < c0) (hc1 : ¬ (255 : Int32) < c1) (hc2 : ¬ (255 : Int32) < c2) (hc3 : ¬ (255 : Int32) < c3) :
    own_Met l mN21 jdk_52_method_16_code 6 (some (.array .byte)) ws ({ frames := 3, cells := 2, slots := 12, locals := 40 } : Room) #[(.ref a0), (.int 0), (.int 4)] Z h0 (QrmCp3_4_4 Z a0 ka c0 c1 c2 c3 h0 n0) := by
  refine MetFree.of_bodySF (plainFor_of_name pn_StringUTF16) hisR ?_
  intro p e s m args below meth c s₁ Bd hml0 hP hK
  obtain ⟨rfl, hZ, hh⟩ := hP
  have hml : c.maxLocals = 6 := hml0
  obtain ⟨hx, hby, hown, hnm, X0, e0⟩ := own_start Bd hml0 hh
  have N0 := Fr.nil n0
  have pre0 : ∀ t, oS p e below s₁ (mkF m 0 #[rv a0, iv 0, iv 4, .unset, .unset, .unset] []) t → Steps p.tables e below (s₁.setTop (entryFrame m #[(.ref a0), (.int 0), (.int 4)] 6)) t := fun t k => castTop (by first | (simp [entryFrame, mkF, argsToLocals, Value.category]; done) | rfl) k
  obtain ⟨T1, h1, k1, X1, e1, E1, A1, st1⟩ := newP X0 hx hZ (hw _ (own_w 16 rfl)) e0 (g := (mkF m 1 #[rv a0, iv 0, iv 4, .unset, .unset, .unset] [(.int 4)])) rfl (hb hby d7_1) rfl (by decide) (cap := 4) (by decide) (by decide) (by decide) (by decide)
  obtain ⟨b1, g1⟩ : ∃ z, z = h0.size := ⟨_, rfl⟩
  rw [← g1] at A1 st1
  have ne_a0_b1 : a0 ≠ b1 := Nat.ne_of_lt (Nat.lt_of_lt_of_le hA.lt (Nat.le_of_eq g1.symm))
  have ge_b1 : n0 ≤ b1 := Nat.le_trans Z0 (Nat.le_of_eq g1.symm)
  have sz_b1 : h0.size ≤ b1 := Nat.le_of_eq g1.symm
  have Z1 : n0 ≤ h1.size := Nat.le_trans Z0 E1.1
  have K1 : Keep h0 h1 [] := (Keep.refl h0 []).ext E1
  have V1 : Arv Z h1 b1 k1 .byte (4 : Int32) [(.int (0 : Int32)), (.int (0 : Int32)), (.int (0 : Int32)), (.int (0 : Int32))] (.int (0 : Int32)) := (Arv.new A1 (by decide)).pad (pad_rep [] (.int (0 : Int32)) 4)
  have f2 := (hA.ext E1)
  obtain ⟨_, T3, Lc3, X3, hQ3, st3⟩ := own_callS (W := 0) (y := mN16) X1 hx hZ hown (hw _ (own_w 42 rfl)) (hw _ (own_w 43 rfl)) (hw _ (own_w 40 rfl)) (hw _ (own_w 44 rfl)) (by decide) (rmCp5_4_4 l Z av0 hw [] a0 b1 ka k1 c0 c1 c2 c3 h1 n0 Z1 f2 V1 ne_a0_b1 ge_b1 hc0 hc1 hc2 hc3) (by decide) (by decide) (g := (mkF m 9 #[rv a0, iv 0, iv 4, rv b1, .unset, .unset] [(.int 4), (.int 0), (.ref b1), (.int 0), (.ref a0)])) rfl (by rw [hml]; rfl) (argsL := [(.ref a0), (.int 0), (.ref b1), (.int 0), (.int 4)]) (rest := []) (lenOf pd__CI_BII_I rfl) rfl (hb hby d7_9) rfl e1 (by decide : 1 + 0 ≤ _) (by decide : 4 + 0 ≤ _)
  obtain ⟨rfl, N3q, K3, V3⟩ := hQ3
  have N3 := Fr.app N0 N3q
  have e3 : T3.heap = T3.heap := rfl
  have Zk3 : n0 ≤ T3.heap.size := Nat.le_trans Z1 K3.1
  have Kk3 : Keep h0 T3.heap [] := K1.trans K3 (allS (Or.inr sz_b1) all0)
  have S4 : ∀ t, oS p e below T3 (mkF m 58 #[rv a0, iv 0, iv 4, rv b1, iv 4, .unset] [(.ref b1)]) t → oS p e below s₁ (mkF m 0 #[rv a0, iv 0, iv 4, .unset, .unset, .unset] []) t := fun t k => id (by
    show oS p e below s₁ (mkF m 0 #[rv a0, iv 0, iv 4, .unset, .unset, .unset] []) _
    refine XS.iloadN X0.here hx rfl (hb hby d7_0) rfl ?_
    refine st1 _ ?_
    refine XS.astoreN X1.here hx rfl (hb hby d7_3) rfl rfl (l' := #[rv a0, iv 0, iv 4, rv b1, .unset, .unset]) rfl ?_
    refine XS.aloadN X1.here hx rfl (hb hby d7_4) rfl rfl ?_
    refine XS.iloadN X1.here hx rfl (hb hby d7_5) rfl ?_
    refine XS.aloadN X1.here hx rfl (hb hby d7_6) rfl rfl ?_
    refine XT.iconstV X1.here hx rfl (0 : Int32) (hb hby d7_7) (by decide) ?_
    refine XS.iloadN X1.here hx rfl (hb hby d7_8) rfl ?_
    refine st3 _ ?_
    refine XS.istore X3.here hx rfl (hb hby d7_12) rfl (l' := #[rv a0, iv 0, iv 4, rv b1, iv 4, .unset]) rfl ?_
    refine XS.iload X3.here hx rfl (hb hby d7_14) rfl ?_
    refine XS.iloadN X3.here hx rfl (hb hby d7_16) rfl ?_
    refine XS.icmpYes X3.here hx rfl (pc0 := 17) (pc' := 57) rfl (hb hby d7_17) rfl (XT.ii_eq_t (by decide)) (by decide) (by decide) ?_
    refine XS.aloadN X3.here hx rfl (hb hby d7_57) rfl rfl ?_
    exact k)
  obtain ⟨fs, hr, hrun, hended, hW, hsame⟩ := X3.leave (v := some (.ref b1)) (fun h => by rw [Bd.returns] at h; cases h)
  refine ⟨_, _, pre0 _ (S4 _ ?_), hrun, hended, _, _, rfl, ?_, ⟨_, rfl⟩, hW, hsame.mono (by decide) (by decide)⟩
  · jvm_step X3.here [X3.here.top, hx, (hb hby d7_58), X3.method', Bd.returns, Value.isRef, FieldType.isReference]
    first | (intro acts; rw [hr _ acts rfl rfl rfl]) | rw [hr _ _ rfl rfl rfl]
    exact Steps.refl _
  · show QrmCp3_4_4 Z a0 ka c0 c1 c2 c3 h0 n0 _ T3.heap _
    rw [e3]
    exact ⟨_, _, rfl, N3, sz_b1, Kk3, V3⟩
def QCp3_4 (Z : State) (c0 : Int32) (c1 : Int32) (c2 : Int32) (c3 : Int32) (h0 : Heap) (n0 : Nat) (v : Option Value) (h : Heap) (L : List Loc) : Prop := (∃ (b : Addr) (k : ClassId), v = some (.ref b) ∧ Fr n0 L ∧ h0.size ≤ b ∧ Keep h0 h [] ∧ Arv Z h b k .byte (4 : Int32) [(.int (own_b c0)), (.int (own_b c1)), (.int (own_b c2)), (.int (own_b c3))] (.int (0 : Int32)) ∧ ¬ (255 : Int32) < c0 ∧ ¬ (255 : Int32) < c1 ∧ ¬ (255 : Int32) < c2 ∧ ¬ (255 : Int32) < c3) ∨ (∃ (b : Addr) (k : ClassId), v = some (.ref b) ∧ Fr n0 L ∧ h0.size ≤ b ∧ Keep h0 h [] ∧ Arv Z h b k .byte (8 : Int32) [(.int (own_lo c0)), (.int (own_hi c0)), (.int (own_lo c1)), (.int (own_hi c1)), (.int (own_lo c2)), (.int (own_hi c2)), (.int (own_lo c3)), (.int (own_hi c3))] (.int (0 : Int32)))
theorem rmCp3J_4 (l : Launch) (Z : State) (av0 : Array Value) (hw : ∀ d ∈ tables_1, d.before av0 Z = true) (ws : List Jvm.Cond) (a0 : Addr) (ka : ClassId) (c0 : Int32) (c1 : Int32) (c2 : Int32) (c3 : Int32) (h0 : Heap) (n0 : Nat) (Z0 : n0 ≤ h0.size) (hA : Arv Z h0 a0 ka .char (4 : Int32) [(.int c0), (.int c1), (.int c2), (.int c3)] (.int (0 : Int32))) (hg0 : 0 ≤ c0.toInt ∧ c0.toInt < 65536) (hg1 : 0 ≤ c1.toInt ∧ c1.toInt < 65536) (hg2 : 0 ≤ c2.toInt ∧ c2.toInt < 65536) (hg3 : 0 ≤ c3.toInt ∧ c3.toInt < 65536) (sA : Sta Z h0 "java/lang/StringUTF16" "$assertionsDisabled" "Z" (.int (1 : Int32))) (sH : Sta Z h0 "java/lang/StringUTF16" "HI_BYTE_SHIFT" "I" (.int (0 : Int32))) (sL : Sta Z h0 "java/lang/StringUTF16" "LO_BYTE_SHIFT" "I" (.int (8 : Int32))) :
    own_Met l mN21 jdk_52_method_16_code 6 (some (.array .byte)) ws ({ frames := 3, cells := 2, slots := 12, locals := 40 } : Room) #[(.ref a0), (.int (0 : Int32)), (.int (4 : Int32))] Z h0 (QCp3_4 Z c0 c1 c2 c3 h0 n0) := by
  by_cases q0 : (255 : Int32) < c0
  · exact own_weak (rmCp3_4_0 l Z av0 hw ws a0 ka c0 c1 c2 c3 h0 n0 Z0 hA  q0 hg0 sA sH sL) (fun v t L q => Or.inr q)
  by_cases q1 : (255 : Int32) < c1
  · exact own_weak (rmCp3_4_1 l Z av0 hw ws a0 ka c0 c1 c2 c3 h0 n0 Z0 hA q0 q1 hg1 sA sH sL) (fun v t L q => Or.inr q)
  by_cases q2 : (255 : Int32) < c2
  · exact own_weak (rmCp3_4_2 l Z av0 hw ws a0 ka c0 c1 c2 c3 h0 n0 Z0 hA q0 q1 q2 hg2 sA sH sL) (fun v t L q => Or.inr q)
  by_cases q3 : (255 : Int32) < c3
  · exact own_weak (rmCp3_4_3 l Z av0 hw ws a0 ka c0 c1 c2 c3 h0 n0 Z0 hA q0 q1 q2 q3 hg3 sA sH sL) (fun v t L q => Or.inr q)
  exact own_weak (rmCp3_4_4 l Z av0 hw ws a0 ka c0 c1 c2 c3 h0 n0 Z0 hA q0 q1 q2 q3) (fun v t L ⟨b, k, z1, z2, z3, z4, z5⟩ => Or.inl ⟨b, k, z1, z2, z3, z4, z5, q0, q1, q2, q3⟩)
def QrmCd_4_0 (Z : State) (a0 : Addr) (ka : ClassId) (vs : List Value) (h0 : Heap) (n0 : Nat) (v : Option Value) (h : Heap) (L : List Loc) : Prop := v = some (.int 0) ∧ Fr n0 L ∧ h = h0
set_option maxRecDepth 65536 in
set_option maxHeartbeats 40000000 in
theorem rmCd_4_0 (l : Launch) (Z : State) (av0 : Array Value) (hw : ∀ d ∈ tables_1, d.before av0 Z = true) (ws : List Jvm.Cond) (a0 : Addr) (ka : ClassId) (vs : List Value) (h0 : Heap) (n0 : Nat) (Z0 : n0 ≤ h0.size) (hA : Arv Z h0 a0 ka .byte (4 : Int32) vs (.int (0 : Int32))) :
    own_Met l mN22 jdk_52_method_15_code 2 (some .byte) ws ({ frames := 0, cells := 0, slots := 0, locals := 0 } : Room) #[(.ref a0), (.int 4)] Z h0 (QrmCd_4_0 Z a0 ka vs h0 n0) := by
  refine MetFree.of_bodySF (plainFor_of_name pn_StringUTF16) hisR ?_
  intro p e s m args below meth c s₁ Bd hml0 hP hK
  obtain ⟨rfl, hZ, hh⟩ := hP
  have hml : c.maxLocals = 2 := hml0
  obtain ⟨hx, hby, hown, hnm, X0, e0⟩ := own_start Bd hml0 hh
  have N0 := Fr.nil n0
  have pre0 : ∀ t, oS p e below s₁ (mkF m 0 #[rv a0, iv 4] []) t → Steps p.tables e below (s₁.setTop (entryFrame m #[(.ref a0), (.int 4)] 2)) t := fun t k => castTop (by first | (simp [entryFrame, mkF, argsToLocals, Value.category]; done) | rfl) k
  obtain ⟨cl1, Ar1, qk1, Sz1, Ng1, Hs1, Gs1⟩ := id hA
  have S2 : ∀ t, oS p e below s₁ (mkF m 8 #[rv a0, iv 4] [(.int 0)]) t → oS p e below s₁ (mkF m 0 #[rv a0, iv 4] []) t := fun t k => id (by
    show oS p e below s₁ (mkF m 0 #[rv a0, iv 4] []) _
    refine XS.iloadN X0.here hx rfl (hb hby d9_0) rfl ?_
    refine XS.aloadN X0.here hx rfl (hb hby d9_1) rfl rfl ?_
    refine X0.arraylength hx (by rw [e0]; exact Ar1.1) (State.isArrayOf_alike hZ.alike Ar1.2.1) (g := (mkF m 2 #[rv a0, iv 4] [(.ref a0), (.int 4)])) rfl rfl (hb hby d9_2) _ ?_
    rw [len_of Sz1 Ng1]
    refine XS.isub X0.here hx rfl (hb hby d9_3) rfl ?_
    refine XT.bipushV X0.here hx rfl (31 : Int32) (hb hby d9_4) (by decide) ?_
    refine XT.iushr X0.here hx rfl (hb hby d9_6) rfl ?_
    refine XT.i2b X0.here hx rfl (hb hby d9_7) rfl ?_
    exact k)
  obtain ⟨fs, hr, hrun, hended, hW, hsame⟩ := X0.leave (v := some (.int (nar .byte (0 : Int32)))) (fun h => by rw [Bd.returns] at h; cases h)
  refine ⟨_, _, pre0 _ (S2 _ ?_), hrun, hended, _, _, rfl, ?_, ⟨_, rfl⟩, hW, hsame.mono (by decide) (by decide)⟩
  · exact retN X0 hx (t := .byte) Bd.returns (by simp) (hb hby d9_8) hr
  · show QrmCd_4_0 Z a0 ka vs h0 n0 _ s₁.heap _
    rw [e0]
    exact ⟨congrArg (fun z => some (Value.int z)) (by decide), N0, rfl⟩
def QrmCd_4_1 (Z : State) (a0 : Addr) (ka : ClassId) (vs : List Value) (h0 : Heap) (n0 : Nat) (v : Option Value) (h : Heap) (L : List Loc) : Prop := v = some (.int 1) ∧ Fr n0 L ∧ h = h0
set_option maxRecDepth 65536 in
set_option maxHeartbeats 40000000 in
theorem rmCd_4_1 (l : Launch) (Z : State) (av0 : Array Value) (hw : ∀ d ∈ tables_1, d.before av0 Z = true) (ws : List Jvm.Cond) (a0 : Addr) (ka : ClassId) (vs : List Value) (h0 : Heap) (n0 : Nat) (Z0 : n0 ≤ h0.size) (hA : Arv Z h0 a0 ka .byte (8 : Int32) vs (.int (0 : Int32))) :
    own_Met l mN22 jdk_52_method_15_code 2 (some .byte) ws ({ frames := 0, cells := 0, slots := 0, locals := 0 } : Room) #[(.ref a0), (.int 4)] Z h0 (QrmCd_4_1 Z a0 ka vs h0 n0) := by
  refine MetFree.of_bodySF (plainFor_of_name pn_StringUTF16) hisR ?_
  intro p e s m args below meth c s₁ Bd hml0 hP hK
  obtain ⟨rfl, hZ, hh⟩ := hP
  have hml : c.maxLocals = 2 := hml0
  obtain ⟨hx, hby, hown, hnm, X0, e0⟩ := own_start Bd hml0 hh
  have N0 := Fr.nil n0
  have pre0 : ∀ t, oS p e below s₁ (mkF m 0 #[rv a0, iv 4] []) t → Steps p.tables e below (s₁.setTop (entryFrame m #[(.ref a0), (.int 4)] 2)) t := fun t k => castTop (by first | (simp [entryFrame, mkF, argsToLocals, Value.category]; done) | rfl) k
  obtain ⟨cl1, Ar1, qk1, Sz1, Ng1, Hs1, Gs1⟩ := id hA
  have S2 : ∀ t, oS p e below s₁ (mkF m 8 #[rv a0, iv 4] [(.int 1)]) t → oS p e below s₁ (mkF m 0 #[rv a0, iv 4] []) t := fun t k => id (by
    show oS p e below s₁ (mkF m 0 #[rv a0, iv 4] []) _
    refine XS.iloadN X0.here hx rfl (hb hby d9_0) rfl ?_
    refine XS.aloadN X0.here hx rfl (hb hby d9_1) rfl rfl ?_
    refine X0.arraylength hx (by rw [e0]; exact Ar1.1) (State.isArrayOf_alike hZ.alike Ar1.2.1) (g := (mkF m 2 #[rv a0, iv 4] [(.ref a0), (.int 4)])) rfl rfl (hb hby d9_2) _ ?_
    rw [len_of Sz1 Ng1]
    refine XS.isub X0.here hx rfl (hb hby d9_3) rfl ?_
    refine XT.bipushV X0.here hx rfl (31 : Int32) (hb hby d9_4) (by decide) ?_
    refine XT.iushr X0.here hx rfl (hb hby d9_6) rfl ?_
    refine XT.i2b X0.here hx rfl (hb hby d9_7) rfl ?_
    exact k)
  obtain ⟨fs, hr, hrun, hended, hW, hsame⟩ := X0.leave (v := some (.int (nar .byte (1 : Int32)))) (fun h => by rw [Bd.returns] at h; cases h)
  refine ⟨_, _, pre0 _ (S2 _ ?_), hrun, hended, _, _, rfl, ?_, ⟨_, rfl⟩, hW, hsame.mono (by decide) (by decide)⟩
  · exact retN X0 hx (t := .byte) Bd.returns (by simp) (hb hby d9_8) hr
  · show QrmCd_4_1 Z a0 ka vs h0 n0 _ s₁.heap _
    rw [e0]
    exact ⟨congrArg (fun z => some (Value.int z)) (by decide), N0, rfl⟩
def QrmSi4_4 (Z : State) (a0 : Addr) (a1 : Addr) (ka : ClassId) (wC : Int32) (c0 : Int32) (c1 : Int32) (c2 : Int32) (c3 : Int32) (h0 : Heap) (n0 : Nat) (v : Option Value) (h : Heap) (L : List Loc) : Prop := v = none ∧ Fr n0 L ∧ Keep h0 h [a0] ∧ own_St4 Z h a0 c0 c1 c2 c3
set_option maxRecDepth 65536 in
set_option maxHeartbeats 40000000 in
theorem rmSi4_4 (l : Launch) (Z : State) (av0 : Array Value) (hw : ∀ d ∈ tables_1, d.before av0 Z = true) (ws : List Jvm.Cond) (a0 : Addr) (a1 : Addr) (ka : ClassId) (wC : Int32) (c0 : Int32) (c1 : Int32) (c2 : Int32) (c3 : Int32) (h0 : Heap) (n0 : Nat) (Z0 : n0 ≤ h0.size) (hE : Exa Z h0 a0 "java/lang/String") (hV : Fld Z h0 a0 "java/lang/String" "value" "[B" .null) (hC : Fld Z h0 a0 "java/lang/String" "coder" "B" (.int (0 : Int32))) (hge : n0 ≤ a0) (hA : Arv Z h0 a1 ka .char (4 : Int32) [(.int c0), (.int c1), (.int c2), (.int c3)] (.int (0 : Int32))) (hS : Sta Z h0 "java/lang/String" "COMPACT_STRINGS" "Z" (.int wC)) (hw0 : ¬ wC = (0 : Int32)) (hg0 : 0 ≤ c0.toInt ∧ c0.toInt < 65536) (hg1 : 0 ≤ c1.toInt ∧ c1.toInt < 65536) (hg2 : 0 ≤ c2.toInt ∧ c2.toInt < 65536) (hg3 : 0 ≤ c3.toInt ∧ c3.toInt < 65536) (sA : Sta Z h0 "java/lang/StringUTF16" "$assertionsDisabled" "Z" (.int (1 : Int32))) (sH : Sta Z h0 "java/lang/StringUTF16" "HI_BYTE_SHIFT" "I" (.int (0 : Int32))) (sL : Sta Z h0 "java/lang/StringUTF16" "LO_BYTE_SHIFT" "I" (.int (8 : Int32))) :
    own_Met l mN2 jdk_42_method_149_code 6 none ws ({ frames := 4, cells := 2, slots := 12, locals := 57 } : Room) #[(.ref a0), (.ref a1), (.int 0), (.int 4), .null] Z h0 (QrmSi4_4 Z a0 a1 ka wC c0 c1 c2 c3 h0 n0) := by
  refine MetFree.of_bodySF (plainFor_of_name pn_String) hisR ?_
  intro p e s m args below meth c s₁ Bd hml0 hP hK
  obtain ⟨rfl, hZ, hh⟩ := hP
  have hml : c.maxLocals = 6 := hml0
  obtain ⟨hx, hby, hown, hnm, X0, e0⟩ := own_start Bd hml0 hh
  have N0 := Fr.nil n0
  have pre0 : ∀ t, oS p e below s₁ (mkF m 0 #[rv a0, rv a1, iv 0, iv 4, .val .null, .unset] []) t → Steps p.tables e below (s₁.setTop (entryFrame m #[(.ref a0), (.ref a1), (.int 0), (.int 4), .null] 6)) t := fun t k => castTop (by first | (simp [entryFrame, mkF, argsToLocals, Value.category]; done) | rfl) k
  obtain ⟨T1, X1, e1, st1⟩ := initO X0 hx hZ hown (hw _ (own_w 12 rfl)) (hw _ (own_w 13 rfl)) (hw _ (own_w 14 rfl)) e0 (g := (mkF m 1 #[rv a0, rv a1, iv 0, iv 4, .val .null, .unset] [(.ref a0)])) rfl (by rw [hml]; rfl) rfl (hb hby d2_1) (by decide) (W := 0) (by show 2 * 0 + _ ≤ _; exact Nat.le_of_eq rfl) (by decide)
  obtain ⟨T2, X2, e2, st2⟩ := getS2 X1 hx hZ hown (host := "") (Or.inl (hw _ (own_w 37 rfl))) Via.refl e1 hS (g := (mkF m 27 #[rv a0, rv a1, iv 0, iv 4, .val .null, .unset] [])) rfl (hb hby d2_27)
  obtain ⟨_, T3, Lc3, X3, hQ3, st3⟩ := own_callS (W := 0) (y := mN21) X2 hx hZ hown (hw _ (own_w 38 rfl)) (hw _ (own_w 39 rfl)) (hw _ (own_w 40 rfl)) (hw _ (own_w 41 rfl)) (by decide) (rmCp3J_4 l Z av0 hw [] a1 ka c0 c1 c2 c3 h0 n0 Z0 hA hg0 hg1 hg2 hg3 sA sH sL) (by decide) (by decide) (g := (mkF m 36 #[rv a0, rv a1, iv 0, iv 4, .val .null, .unset] [(.int 4), (.int 0), (.ref a1)])) rfl (by rw [hml]; rfl) (argsL := [(.ref a1), (.int 0), (.int 4)]) (rest := []) (lenOf pd__CII_B rfl) rfl (hb hby d2_36) rfl e2 (by decide : 0 + 2 ≤ _) (by decide : 0 + 12 ≤ _)
  rcases hQ3 with ⟨b3, kb3, rfl, N3q, gb3, K3, V3, lt0_3, lt1_3, lt2_3, lt3_3⟩ | ⟨b3, kb3, rfl, N3q, gb3, K3, V3⟩
  · have N3 := Fr.app N0 N3q
    have e3 : T3.heap = T3.heap := rfl
    have ne_a0_b3 : a0 ≠ b3 := Nat.ne_of_lt (Nat.lt_of_lt_of_le hE.lt gb3)
    have ne_a1_b3 : a1 ≠ b3 := Nat.ne_of_lt (Nat.lt_of_lt_of_le hA.lt gb3)
    have ge_b3 : n0 ≤ b3 := Nat.le_trans Z0 gb3
    have sz_b3 : h0.size ≤ b3 := gb3
    have Zk3 : n0 ≤ T3.heap.size := Nat.le_trans Z0 K3.1
    have Kk3 : Keep h0 T3.heap [a0] := (Keep.refl h0 [a0]).trans K3 all0
    obtain ⟨_, T4, Lc4, X4, hQ4, st4⟩ := own_callS (W := 1) (y := mN22) X3 hx hZ hown (hw _ (own_w 45 rfl)) (hw _ (own_w 46 rfl)) (hw _ (own_w 40 rfl)) (hw _ (own_w 47 rfl)) (by decide) (rmCd_4_0 l Z av0 hw [] b3 kb3 [(.int (own_b c0)), (.int (own_b c1)), (.int (own_b c2)), (.int (own_b c3))] T3.heap n0 Zk3 V3) (by decide) (by decide) (g := (mkF m 45 #[rv a0, rv a1, iv 0, iv 4, .val .null, rv b3] [(.int 4), (.ref b3), (.ref a0)])) rfl (by rw [hml]; rfl) (argsL := [(.ref b3), (.int 4)]) (rest := [(.ref a0)]) (lenOf pd__BI_B rfl) rfl (hb hby d2_45) rfl e3 (by decide : 2 + 0 ≤ _) (by decide : 12 + 0 ≤ _)
    obtain ⟨rfl, N4q, hh4⟩ := hQ4
    have N4 := Fr.app N3 N4q
    have e4 : T4.heap = T3.heap := hh4
    have f5 := (hC.keep K3 nin0)
    have f6 := (hE.keep K3)
    obtain ⟨T7, h7, X7, e7, W7, st7⟩ := putFN X4 hx hZ hown (hw _ (own_w 22 rfl)) Via.refl e4 f5 f6 (Or.inr ⟨(hw _ (own_w 18 rfl)), rfl, hnm⟩) (hw _ (own_w 3 rfl)) (ty := .byte) (v' := (.int 0)) (by decide) rfl rfl (g := (mkF m 48 #[rv a0, rv a1, iv 0, iv 4, .val .null, rv b3] [(.int 0), (.ref a0)])) rfl rfl (hb hby d2_48)
    have N7 := Fr.snoc X7 N4 hge
    have Z7 : n0 ≤ h7.size := Nat.le_trans Zk3 (Nat.le_of_eq W7.size.symm)
    have K7 : Keep h0 h7 [a0] := Kk3.wr W7 (Or.inl (List.mem_of_getElem? (i := 0) rfl))
    have Fw7 := f5.same W7
    have f8 := ((hV.keep K3 nin0).other W7 (Or.inr (slot_ne (Or.inr (hw _ (own_w 17 rfl))) (Or.inr (hw _ (own_w 18 rfl))) (by decide) (t := (.array .byte)) (t' := .byte) (by decide) (by decide))))
    have f9 := (f6.wr W7)
    obtain ⟨T10, h10, X10, e10, W10, st10⟩ := putF X7 hx hZ hown (host := "") (Or.inl (hw _ (own_w 21 rfl))) Via.refl e7 f8 f9 (Or.inr ⟨(hw _ (own_w 17 rfl)), rfl, hnm⟩) (hw _ (own_w 3 rfl)) (ty := (.array .byte)) (by decide) rfl rfl (g := (mkF m 54 #[rv a0, rv a1, iv 0, iv 4, .val .null, rv b3] [(.ref b3), (.ref a0)])) rfl rfl (hb hby d2_54)
    have N10 := Fr.snoc X10 N7 hge
    have Z10 : n0 ≤ h10.size := Nat.le_trans Z7 (Nat.le_of_eq W10.size.symm)
    have K10 : Keep h0 h10 [a0] := K7.wr W10 (Or.inl (List.mem_of_getElem? (i := 0) rfl))
    have Fw10 := f8.same W10
    have S11 : ∀ t, oS p e below T10 (mkF m 57 #[rv a0, rv a1, iv 0, iv 4, .val .null, rv b3] []) t → oS p e below s₁ (mkF m 0 #[rv a0, rv a1, iv 0, iv 4, .val .null, .unset] []) t := fun t k => id (by
      show oS p e below s₁ (mkF m 0 #[rv a0, rv a1, iv 0, iv 4, .val .null, .unset] []) _
      refine XS.aloadN X0.here hx rfl (hb hby d2_0) rfl rfl ?_
      refine st1 _ ?_
      refine XS.iloadN X1.here hx rfl (hb hby d2_4) rfl ?_
      refine XS.ifYes X1.here hx rfl (pc0 := 5) (pc' := 27) rfl (hb hby d2_5) rfl (XT.i0_ne_t (by decide)) (by decide) (by decide) ?_
      refine st2 _ ?_
      refine XS.ifNo X2.here hx rfl (hb hby d2_30) rfl (XT.i0_eq_f hw0) ?_
      refine XS.aloadN X2.here hx rfl (hb hby d2_33) rfl rfl ?_
      refine XS.iloadN X2.here hx rfl (hb hby d2_34) rfl ?_
      refine XS.iloadN X2.here hx rfl (hb hby d2_35) rfl ?_
      refine st3 _ ?_
      refine XS.astore X3.here hx rfl (hb hby d2_39) rfl rfl (l' := #[rv a0, rv a1, iv 0, iv 4, .val .null, rv b3]) rfl ?_
      refine XS.aloadN X3.here hx rfl (hb hby d2_41) rfl rfl ?_
      refine XS.aload X3.here hx rfl (hb hby d2_42) rfl rfl ?_
      refine XS.iloadN X3.here hx rfl (hb hby d2_44) rfl ?_
      refine st4 _ ?_
      refine st7 _ ?_
      refine XS.aloadN X7.here hx rfl (hb hby d2_51) rfl rfl ?_
      refine XS.aload X7.here hx rfl (hb hby d2_52) rfl rfl ?_
      refine st10 _ ?_
      exact k)
    obtain ⟨fs, hr, hrun, hended, hW, hsame⟩ := X10.leave (v := none) (fun _ => rfl)
    refine ⟨_, _, pre0 _ (S11 _ ?_), hrun, hended, _, _, rfl, ?_, ⟨_, rfl⟩, hW, hsame.mono (by decide) (by decide)⟩
    · exact X10.returnOut hx Bd.returns (hb hby d2_57) hr
    have f12 := (Fw7.other W10 (Or.inr (slot_ne (Or.inr (hw _ (own_w 18 rfl))) (Or.inr (hw _ (own_w 17 rfl))) (by decide) (t := .byte) (t' := (.array .byte)) (by decide) (by decide))))
    have f13 := ((V3.other W7 (Ne.symm ne_a0_b3)).other W10 (Ne.symm ne_a0_b3))
    · show QrmSi4_4 Z a0 a1 ka wC c0 c1 c2 c3 h0 n0 _ T10.heap _
      rw [e10]
      exact ⟨rfl, N10, K10, Or.inl ⟨b3, _, Fw10, f12, f13, lt0_3, lt1_3, lt2_3, lt3_3⟩⟩
  · have N3 := Fr.app N0 N3q
    have e3 : T3.heap = T3.heap := rfl
    have ne_a0_b3 : a0 ≠ b3 := Nat.ne_of_lt (Nat.lt_of_lt_of_le hE.lt gb3)
    have ne_a1_b3 : a1 ≠ b3 := Nat.ne_of_lt (Nat.lt_of_lt_of_le hA.lt gb3)
    have ge_b3 : n0 ≤ b3 := Nat.le_trans Z0 gb3
    have sz_b3 : h0.size ≤ b3 := gb3
    have Zk3 : n0 ≤ T3.heap.size := Nat.le_trans Z0 K3.1
    have Kk3 : Keep h0 T3.heap [a0] := (Keep.refl h0 [a0]).trans K3 all0
    obtain ⟨_, T14, Lc14, X14, hQ14, st14⟩ := own_callS (W := 1) (y := mN22) X3 hx hZ hown (hw _ (own_w 45 rfl)) (hw _ (own_w 46 rfl)) (hw _ (own_w 40 rfl)) (hw _ (own_w 47 rfl)) (by decide) (rmCd_4_1 l Z av0 hw [] b3 kb3 [(.int (own_lo c0)), (.int (own_hi c0)), (.int (own_lo c1)), (.int (own_hi c1)), (.int (own_lo c2)), (.int (own_hi c2)), (.int (own_lo c3)), (.int (own_hi c3))] T3.heap n0 Zk3 V3) (by decide) (by decide) (g := (mkF m 45 #[rv a0, rv a1, iv 0, iv 4, .val .null, rv b3] [(.int 4), (.ref b3), (.ref a0)])) rfl (by rw [hml]; rfl) (argsL := [(.ref b3), (.int 4)]) (rest := [(.ref a0)]) (lenOf pd__BI_B rfl) rfl (hb hby d2_45) rfl e3 (by decide : 2 + 0 ≤ _) (by decide : 12 + 0 ≤ _)
    obtain ⟨rfl, N14q, hh14⟩ := hQ14
    have N14 := Fr.app N3 N14q
    have e14 : T14.heap = T3.heap := hh14
    have f15 := (hC.keep K3 nin0)
    have f16 := (hE.keep K3)
    obtain ⟨T17, h17, X17, e17, W17, st17⟩ := putFN X14 hx hZ hown (hw _ (own_w 22 rfl)) Via.refl e14 f15 f16 (Or.inr ⟨(hw _ (own_w 18 rfl)), rfl, hnm⟩) (hw _ (own_w 3 rfl)) (ty := .byte) (v' := (.int 1)) (by decide) rfl rfl (g := (mkF m 48 #[rv a0, rv a1, iv 0, iv 4, .val .null, rv b3] [(.int 1), (.ref a0)])) rfl rfl (hb hby d2_48)
    have N17 := Fr.snoc X17 N14 hge
    have Z17 : n0 ≤ h17.size := Nat.le_trans Zk3 (Nat.le_of_eq W17.size.symm)
    have K17 : Keep h0 h17 [a0] := Kk3.wr W17 (Or.inl (List.mem_of_getElem? (i := 0) rfl))
    have Fw17 := f15.same W17
    have f18 := ((hV.keep K3 nin0).other W17 (Or.inr (slot_ne (Or.inr (hw _ (own_w 17 rfl))) (Or.inr (hw _ (own_w 18 rfl))) (by decide) (t := (.array .byte)) (t' := .byte) (by decide) (by decide))))
    have f19 := (f16.wr W17)
    obtain ⟨T20, h20, X20, e20, W20, st20⟩ := putF X17 hx hZ hown (host := "") (Or.inl (hw _ (own_w 21 rfl))) Via.refl e17 f18 f19 (Or.inr ⟨(hw _ (own_w 17 rfl)), rfl, hnm⟩) (hw _ (own_w 3 rfl)) (ty := (.array .byte)) (by decide) rfl rfl (g := (mkF m 54 #[rv a0, rv a1, iv 0, iv 4, .val .null, rv b3] [(.ref b3), (.ref a0)])) rfl rfl (hb hby d2_54)
    have N20 := Fr.snoc X20 N17 hge
    have Z20 : n0 ≤ h20.size := Nat.le_trans Z17 (Nat.le_of_eq W20.size.symm)
    have K20 : Keep h0 h20 [a0] := K17.wr W20 (Or.inl (List.mem_of_getElem? (i := 0) rfl))
    have Fw20 := f18.same W20
    have S21 : ∀ t, oS p e below T20 (mkF m 57 #[rv a0, rv a1, iv 0, iv 4, .val .null, rv b3] []) t → oS p e below s₁ (mkF m 0 #[rv a0, rv a1, iv 0, iv 4, .val .null, .unset] []) t := fun t k => id (by
      show oS p e below s₁ (mkF m 0 #[rv a0, rv a1, iv 0, iv 4, .val .null, .unset] []) _
      refine XS.aloadN X0.here hx rfl (hb hby d2_0) rfl rfl ?_
      refine st1 _ ?_
      refine XS.iloadN X1.here hx rfl (hb hby d2_4) rfl ?_
      refine XS.ifYes X1.here hx rfl (pc0 := 5) (pc' := 27) rfl (hb hby d2_5) rfl (XT.i0_ne_t (by decide)) (by decide) (by decide) ?_
      refine st2 _ ?_
      refine XS.ifNo X2.here hx rfl (hb hby d2_30) rfl (XT.i0_eq_f hw0) ?_
      refine XS.aloadN X2.here hx rfl (hb hby d2_33) rfl rfl ?_
      refine XS.iloadN X2.here hx rfl (hb hby d2_34) rfl ?_
      refine XS.iloadN X2.here hx rfl (hb hby d2_35) rfl ?_
      refine st3 _ ?_
      refine XS.astore X3.here hx rfl (hb hby d2_39) rfl rfl (l' := #[rv a0, rv a1, iv 0, iv 4, .val .null, rv b3]) rfl ?_
      refine XS.aloadN X3.here hx rfl (hb hby d2_41) rfl rfl ?_
      refine XS.aload X3.here hx rfl (hb hby d2_42) rfl rfl ?_
      refine XS.iloadN X3.here hx rfl (hb hby d2_44) rfl ?_
      refine st14 _ ?_
      refine st17 _ ?_
      refine XS.aloadN X17.here hx rfl (hb hby d2_51) rfl rfl ?_
      refine XS.aload X17.here hx rfl (hb hby d2_52) rfl rfl ?_
      refine st20 _ ?_
      exact k)
    obtain ⟨fs, hr, hrun, hended, hW, hsame⟩ := X20.leave (v := none) (fun _ => rfl)
    refine ⟨_, _, pre0 _ (S21 _ ?_), hrun, hended, _, _, rfl, ?_, ⟨_, rfl⟩, hW, hsame.mono (by decide) (by decide)⟩
    · exact X20.returnOut hx Bd.returns (hb hby d2_57) hr
    have f22 := (Fw17.other W20 (Or.inr (slot_ne (Or.inr (hw _ (own_w 18 rfl))) (Or.inr (hw _ (own_w 17 rfl))) (by decide) (t := .byte) (t' := (.array .byte)) (by decide) (by decide))))
    have f23 := ((V3.other W17 (Ne.symm ne_a0_b3)).other W20 (Ne.symm ne_a0_b3))
    · show QrmSi4_4 Z a0 a1 ka wC c0 c1 c2 c3 h0 n0 _ T20.heap _
      rw [e20]
      exact ⟨rfl, N20, K20, Or.inr ⟨b3, _, Fw20, f22, f23⟩⟩
def QrmSi2_4 (Z : State) (a0 : Addr) (a1 : Addr) (ka : ClassId) (wC : Int32) (c0 : Int32) (c1 : Int32) (c2 : Int32) (c3 : Int32) (h0 : Heap) (n0 : Nat) (v : Option Value) (h : Heap) (L : List Loc) : Prop := v = none ∧ Fr n0 L ∧ Keep h0 h [a0] ∧ own_St4 Z h a0 c0 c1 c2 c3
set_option maxRecDepth 65536 in
set_option maxHeartbeats 40000000 in
theorem rmSi2_4 (l : Launch) (Z : State) (av0 : Array Value) (hw : ∀ d ∈ tables_1, d.before av0 Z = true) (ws : List Jvm.Cond) (a0 : Addr) (a1 : Addr) (ka : ClassId) (wC : Int32) (c0 : Int32) (c1 : Int32) (c2 : Int32) (c3 : Int32) (h0 : Heap) (n0 : Nat) (Z0 : n0 ≤ h0.size) (hE : Exa Z h0 a0 "java/lang/String") (hV : Fld Z h0 a0 "java/lang/String" "value" "[B" .null) (hC : Fld Z h0 a0 "java/lang/String" "coder" "B" (.int (0 : Int32))) (hge : n0 ≤ a0) (hA : Arv Z h0 a1 ka .char (4 : Int32) [(.int c0), (.int c1), (.int c2), (.int c3)] (.int (0 : Int32))) (hS : Sta Z h0 "java/lang/String" "COMPACT_STRINGS" "Z" (.int wC)) (hw0 : ¬ wC = (0 : Int32)) (hg0 : 0 ≤ c0.toInt ∧ c0.toInt < 65536) (hg1 : 0 ≤ c1.toInt ∧ c1.toInt < 65536) (hg2 : 0 ≤ c2.toInt ∧ c2.toInt < 65536) (hg3 : 0 ≤ c3.toInt ∧ c3.toInt < 65536) (sA : Sta Z h0 "java/lang/StringUTF16" "$assertionsDisabled" "Z" (.int (1 : Int32))) (sH : Sta Z h0 "java/lang/StringUTF16" "HI_BYTE_SHIFT" "I" (.int (0 : Int32))) (sL : Sta Z h0 "java/lang/StringUTF16" "LO_BYTE_SHIFT" "I" (.int (8 : Int32))) :
    own_Met l mN3 jdk_42_method_3_code 2 none ws ({ frames := 5, cells := 2, slots := 12, locals := 74 } : Room) #[(.ref a0), (.ref a1)] Z h0 (QrmSi2_4 Z a0 a1 ka wC c0 c1 c2 c3 h0 n0) := by
  refine MetFree.of_bodySF (plainFor_of_name pn_String) hisR ?_
  intro p e s m args below meth c s₁ Bd hml0 hP hK
  obtain ⟨rfl, hZ, hh⟩ := hP
  have hml : c.maxLocals = 2 := hml0
  obtain ⟨hx, hby, hown, hnm, X0, e0⟩ := own_start Bd hml0 hh
  have N0 := Fr.nil n0
  have pre0 : ∀ t, oS p e below s₁ (mkF m 0 #[rv a0, rv a1] []) t → Steps p.tables e below (s₁.setTop (entryFrame m #[(.ref a0), (.ref a1)] 2)) t := fun t k => castTop (by first | (simp [entryFrame, mkF, argsToLocals, Value.category]; done) | rfl) k
  obtain ⟨cl1, Ar1, qk1, Sz1, Ng1, Hs1, Gs1⟩ := id hA
  obtain ⟨_, T2, Lc2, X2, hQ2, st2⟩ := own_special (W := 0) (y := mN2) X0 hx hZ rfl hown (hw _ (own_w 8 rfl)) (hw _ (own_w 9 rfl)) (hw _ (own_w 11 rfl)) (hw _ (own_w 4 rfl)) (by decide) (rmSi4_4 l Z av0 hw [] a0 a1 ka wC c0 c1 c2 c3 h0 n0 Z0 hE hV hC hge hA hS hw0 hg0 hg1 hg2 hg3 sA sH sL) (by decide) (by decide) (g := (mkF m 6 #[rv a0, rv a1] [.null, (.int 4), (.int 0), (.ref a1), (.ref a0)])) rfl (by rw [hml]; rfl) (a := a0) (argsL := [(.ref a1), (.int 0), (.int 4), .null]) (rest := []) (lenOf pd__CIILjava_lang_Void_V rfl) rfl (hb hby d1_6) rfl e0 (by decide : 0 + 2 ≤ _) (by decide : 0 + 12 ≤ _)
  obtain ⟨rfl, N2q, K2, St2⟩ := hQ2
  have N2 := Fr.app N0 N2q
  have e2 : T2.heap = T2.heap := rfl
  have Zk2 : n0 ≤ T2.heap.size := Nat.le_trans Z0 K2.1
  have Kk2 : Keep h0 T2.heap [a0] := (Keep.refl h0 [a0]).trans K2 (allS (Or.inl (List.mem_of_getElem? (i := 0) rfl)) all0)
  have S3 : ∀ t, oS p e below T2 (mkF m 9 #[rv a0, rv a1] []) t → oS p e below s₁ (mkF m 0 #[rv a0, rv a1] []) t := fun t k => id (by
    show oS p e below s₁ (mkF m 0 #[rv a0, rv a1] []) _
    refine XS.aloadN X0.here hx rfl (hb hby d1_0) rfl rfl ?_
    refine XS.aloadN X0.here hx rfl (hb hby d1_1) rfl rfl ?_
    refine XT.iconstV X0.here hx rfl (0 : Int32) (hb hby d1_2) (by decide) ?_
    refine XS.aloadN X0.here hx rfl (hb hby d1_3) rfl rfl ?_
    refine X0.arraylength hx (by rw [e0]; exact Ar1.1) (State.isArrayOf_alike hZ.alike Ar1.2.1) (g := (mkF m 4 #[rv a0, rv a1] [(.ref a1), (.int 0), (.ref a1), (.ref a0)])) rfl rfl (hb hby d1_4) _ ?_
    rw [len_of Sz1 Ng1]
    refine XS.aconstNull X0.here hx rfl (hb hby d1_5) ?_
    refine st2 _ ?_
    exact k)
  obtain ⟨fs, hr, hrun, hended, hW, hsame⟩ := X2.leave (v := none) (fun _ => rfl)
  refine ⟨_, _, pre0 _ (S3 _ ?_), hrun, hended, _, _, rfl, ?_, ⟨_, rfl⟩, hW, hsame.mono (by decide) (by decide)⟩
  · exact X2.returnOut hx Bd.returns (hb hby d1_9) hr
  · show QrmSi2_4 Z a0 a1 ka wC c0 c1 c2 c3 h0 n0 _ T2.heap _
    rw [e2]
    exact ⟨rfl, N2, Kk2, St2⟩
set_option maxRecDepth 65536 in
set_option maxHeartbeats 40000000 in
theorem rm0_4 (l : Launch) (Z : State) (av0 : Array Value) (hw : ∀ d ∈ tables_1, d.before av0 Z = true) (ws : List Jvm.Cond) (p0 : Int32) (p1 : Int32) (p2 : Int32) (p3 : Int32) (p4 : Int32) (wC : Int32) (fm : Value) (h0 : Heap) (n0 : Nat) (Z0 : n0 ≤ h0.size) (hS : Sta Z h0 "java/lang/String" "COMPACT_STRINGS" "Z" (.int wC)) (hw0 : ¬ wC = (0 : Int32)) (hfm : fm.isRef = true) (hF : Sta Z h0 "jdk/internal/util/Preconditions" "SIOOBE_FORMATTER" "Ljava/util/function/BiFunction;" fm) (sA : Sta Z h0 "java/lang/StringUTF16" "$assertionsDisabled" "Z" (.int (1 : Int32))) (sH : Sta Z h0 "java/lang/StringUTF16" "HI_BYTE_SHIFT" "I" (.int (0 : Int32))) (sL : Sta Z h0 "java/lang/StringUTF16" "LO_BYTE_SHIFT" "I" (.int (8 : Int32))) (hkp : ∀ (b : Addr) (cl : Cell), Z.heap[b]? = some cl → h0[b]? = some cl) (hcH : Jvm.Lit.constHeld Z "java/lang/String" 7) (hcw : Jvm.Lit.compactW.before av0 Z = true) (hk : own_P p0 (5 : Int32) = (4 : Int32)) :
    MetFree l x (head1 (Jvm.Cond.code x code maxLocals ret :: ws) room_1) (fun aU U => aU = #[(.int p0), (.int p1), (.int p2), (.int p3), (.int p4)] ∧ Z.Warmed39 U.vm ∧ U.heap = h0 ∧ IB Z U.vm []) (fun _ _ _ _ _ => True) (fun _ U oU U' => ∃ vU LU, oU = .returned vU ∧ Qrm0 Z p0 p1 p2 p3 p4 wC fm h0 n0 vU U'.heap LU ∧ ReturnedEndW U oU U' LU room_1.cells room_1.slots) := by
  refine MetFree.of_bodySF (plainFor_of_name pn_XsNamesIsNamespaceNamePinLaw) hisR ?_
  intro p e s m args below meth c s₁ Bd hml0 hP hK
  obtain ⟨rfl, hZ, hh, hI⟩ := hP
  have hml : c.maxLocals = 13 := hml0
  obtain ⟨hx, hby, hown, hnm, X0, e0⟩ := own_start Bd hml0 hh
  have N0 := Fr.nil n0
  have pre0 : ∀ t, oS p e below s₁ (mkF m 0 #[iv p0, iv p1, iv p2, iv p3, iv p4, .unset, .unset, .unset, .unset, .unset, .unset, .unset, .unset] []) t → Steps p.tables e below (s₁.setTop (entryFrame m #[(.int p0), (.int p1), (.int p2), (.int p3), (.int p4)] maxLocals)) t := fun t k => castTop (by first | (simp [entryFrame, mkF, argsToLocals, Value.category, maxLocals]; done) | rfl) k
  obtain ⟨T1, h1, k1, X1, e1, E1, A1, st1⟩ := newP X0 hx hZ (hw _ (own_w 1 rfl)) e0 (g := (mkF m 27 #[iv p0, iv p1, iv p2, iv p3, iv p4, iv 4, iv (own_c p1), iv (own_c p2), iv (own_c p3), iv (own_c p4), .unset, .unset, .unset] [(.int 4)])) rfl (hb hby at_27) rfl (by decide) (cap := 4) (by decide) (by decide) (by decide) (by decide)
  obtain ⟨b1, g1⟩ : ∃ z, z = h0.size := ⟨_, rfl⟩
  rw [← g1] at A1 st1
  have ge_b1 : n0 ≤ b1 := Nat.le_trans Z0 (Nat.le_of_eq g1.symm)
  have sz_b1 : h0.size ≤ b1 := Nat.le_of_eq g1.symm
  have Z1 : n0 ≤ h1.size := Nat.le_trans Z0 E1.1
  have K1 : Keep h0 h1 [] := (Keep.refl h0 []).ext E1
  have V1 : Arv Z h1 b1 k1 .char (4 : Int32) [(.int (0 : Int32)), (.int (0 : Int32)), (.int (0 : Int32)), (.int (0 : Int32))] (.int (0 : Int32)) := (Arv.new A1 (by decide)).pad (pad_rep [] (.int (0 : Int32)) 4)
  obtain ⟨cl2, Ar2, qk2, Sz2, Ng2, Hs2, Gs2⟩ := id V1
  have hin2 : ¬ ((0 : Int32) < 0 ∨ cl2.slots.size ≤ ((0 : Int32)).toNatClampNeg) := inb_of Sz2 ⟨by decide, by decide⟩
  obtain ⟨T3, h3, X3, e3, W3, st3⟩ := stC X1 hx hZ e1 Ar2 (j := (0 : Int32)) hin2 (g := (mkF m 41 #[iv p0, iv p1, iv p2, iv p3, iv p4, iv 4, iv (own_c p1), iv (own_c p2), iv (own_c p3), iv (own_c p4), rv b1, .unset, .unset] [(.int (own_c p1)), (.int 0), (.ref b1)])) rfl rfl (hb hby at_41)
  have N3 := Fr.snoc X3 N0 ge_b1
  have Z3 : n0 ≤ h3.size := Nat.le_trans Z1 (Nat.le_of_eq W3.size.symm)
  have K3 : Keep h0 h3 [] := K1.wr W3 (Or.inr sz_b1)
  rw [own_nc] at W3
  have V3 : Arv Z h3 b1 k1 .char (4 : Int32) [(.int (own_c p1)), (.int (0 : Int32)), (.int (0 : Int32)), (.int (0 : Int32))] (.int (0 : Int32)) := Arv.set Ar2 qk2 Sz2 Ng2 Hs2 Gs2 (own_fc _) W3 0 rfl (Nat.le_of_ble_eq_true rfl)
  obtain ⟨cl4, Ar4, qk4, Sz4, Ng4, Hs4, Gs4⟩ := id V3
  have hin4 : ¬ ((1 : Int32) < 0 ∨ cl4.slots.size ≤ ((1 : Int32)).toNatClampNeg) := inb_of Sz4 ⟨by decide, by decide⟩
  obtain ⟨T5, h5, X5, e5, W5, st5⟩ := stC X3 hx hZ e3 Ar4 (j := (1 : Int32)) hin4 (g := (mkF m 53 #[iv p0, iv p1, iv p2, iv p3, iv p4, iv 4, iv (own_c p1), iv (own_c p2), iv (own_c p3), iv (own_c p4), rv b1, .unset, .unset] [(.int (own_c p2)), (.int 1), (.ref b1)])) rfl rfl (hb hby at_53)
  have N5 := Fr.snoc X5 N3 ge_b1
  have Z5 : n0 ≤ h5.size := Nat.le_trans Z3 (Nat.le_of_eq W5.size.symm)
  have K5 : Keep h0 h5 [] := K3.wr W5 (Or.inr sz_b1)
  rw [own_nc] at W5
  have V5 : Arv Z h5 b1 k1 .char (4 : Int32) [(.int (own_c p1)), (.int (own_c p2)), (.int (0 : Int32)), (.int (0 : Int32))] (.int (0 : Int32)) := Arv.set Ar4 qk4 Sz4 Ng4 Hs4 Gs4 (own_fc _) W5 1 rfl (Nat.le_of_ble_eq_true rfl)
  obtain ⟨cl6, Ar6, qk6, Sz6, Ng6, Hs6, Gs6⟩ := id V5
  have hin6 : ¬ ((2 : Int32) < 0 ∨ cl6.slots.size ≤ ((2 : Int32)).toNatClampNeg) := inb_of Sz6 ⟨by decide, by decide⟩
  obtain ⟨T7, h7, X7, e7, W7, st7⟩ := stC X5 hx hZ e5 Ar6 (j := (2 : Int32)) hin6 (g := (mkF m 65 #[iv p0, iv p1, iv p2, iv p3, iv p4, iv 4, iv (own_c p1), iv (own_c p2), iv (own_c p3), iv (own_c p4), rv b1, .unset, .unset] [(.int (own_c p3)), (.int 2), (.ref b1)])) rfl rfl (hb hby at_65)
  have N7 := Fr.snoc X7 N5 ge_b1
  have Z7 : n0 ≤ h7.size := Nat.le_trans Z5 (Nat.le_of_eq W7.size.symm)
  have K7 : Keep h0 h7 [] := K5.wr W7 (Or.inr sz_b1)
  rw [own_nc] at W7
  have V7 : Arv Z h7 b1 k1 .char (4 : Int32) [(.int (own_c p1)), (.int (own_c p2)), (.int (own_c p3)), (.int (0 : Int32))] (.int (0 : Int32)) := Arv.set Ar6 qk6 Sz6 Ng6 Hs6 Gs6 (own_fc _) W7 2 rfl (Nat.le_of_ble_eq_true rfl)
  obtain ⟨cl8, Ar8, qk8, Sz8, Ng8, Hs8, Gs8⟩ := id V7
  have hin8 : ¬ ((3 : Int32) < 0 ∨ cl8.slots.size ≤ ((3 : Int32)).toNatClampNeg) := inb_of Sz8 ⟨by decide, by decide⟩
  obtain ⟨T9, h9, X9, e9, W9, st9⟩ := stC X7 hx hZ e7 Ar8 (j := (3 : Int32)) hin8 (g := (mkF m 77 #[iv p0, iv p1, iv p2, iv p3, iv p4, iv 4, iv (own_c p1), iv (own_c p2), iv (own_c p3), iv (own_c p4), rv b1, .unset, .unset] [(.int (own_c p4)), (.int 3), (.ref b1)])) rfl rfl (hb hby at_77)
  have N9 := Fr.snoc X9 N7 ge_b1
  have Z9 : n0 ≤ h9.size := Nat.le_trans Z7 (Nat.le_of_eq W9.size.symm)
  have K9 : Keep h0 h9 [] := K7.wr W9 (Or.inr sz_b1)
  rw [own_nc] at W9
  have V9 : Arv Z h9 b1 k1 .char (4 : Int32) [(.int (own_c p1)), (.int (own_c p2)), (.int (own_c p3)), (.int (own_c p4))] (.int (0 : Int32)) := Arv.set Ar8 qk8 Sz8 Ng8 Hs8 Gs8 (own_fc _) W9 3 rfl (Nat.le_of_ble_eq_true rfl)
  obtain ⟨T10, h10, X10, e10, E10, A10, D10, -, st10⟩ := newO X9 hx hZ hown (hw _ (own_w 2 rfl)) (hw _ (own_w 3 rfl)) (hw _ (own_w 4 rfl)) e9 (g := (mkF m 78 #[iv p0, iv p1, iv p2, iv p3, iv p4, iv 4, iv (own_c p1), iv (own_c p2), iv (own_c p3), iv (own_c p4), rv b1, .unset, .unset] [])) rfl (hb hby at_78) (by decide) (by decide)
  obtain ⟨b10, g10⟩ : ∃ z, z = h9.size := ⟨_, rfl⟩
  rw [← g10] at A10 D10 st10
  have ne_b1_b10 : b1 ≠ b10 := Nat.ne_of_lt (Nat.lt_of_lt_of_le V9.lt (Nat.le_of_eq g10.symm))
  have ge_b10 : n0 ≤ b10 := Nat.le_trans Z9 (Nat.le_of_eq g10.symm)
  have sz_b10 : h0.size ≤ b10 := Nat.le_trans K9.1 (Nat.le_of_eq g10.symm)
  have Z10 : n0 ≤ h10.size := Nat.le_trans Z9 E10.1
  have K10 : Keep h0 h10 [] := K9.ext E10
  have F10_value : Fld Z h10 b10 "java/lang/String" "value" "[B" .null := D10 (Or.inr (hw _ (own_w 17 rfl))) (ty := (.array .byte)) (by decide)
  have F10_coder : Fld Z h10 b10 "java/lang/String" "coder" "B" (.int 0) := D10 (Or.inr (hw _ (own_w 18 rfl))) (ty := .byte) (by decide)
  have f11 := (V9.ext E10)
  have f12 := ((((((hS.ext E1).wr W3).wr W5).wr W7).wr W9).ext E10)
  have f13 := ((((((sA.ext E1).wr W3).wr W5).wr W7).wr W9).ext E10)
  have f14 := ((((((sH.ext E1).wr W3).wr W5).wr W7).wr W9).ext E10)
  have f15 := ((((((sL.ext E1).wr W3).wr W5).wr W7).wr W9).ext E10)
  obtain ⟨_, T16, Lc16, X16, hQ16, st16⟩ := own_special (W := 1) (y := mN3) X10 hx hZ rfl hown (hw _ (own_w 5 rfl)) (hw _ (own_w 6 rfl)) (hw _ (own_w 7 rfl)) (hw _ (own_w 4 rfl)) (by decide) (rmSi2_4 l Z av0 hw [] b10 b1 k1 wC (own_c p1) (own_c p2) (own_c p3) (own_c p4) h10 n0 Z10 A10 F10_value F10_coder ge_b10 f11 f12 hw0 (own_cr p1) (own_cr p2) (own_cr p3) (own_cr p4) f13 f14 f15) (by decide) (by decide) (g := (mkF m 84 #[iv p0, iv p1, iv p2, iv p3, iv p4, iv 4, iv (own_c p1), iv (own_c p2), iv (own_c p3), iv (own_c p4), rv b1, .unset, .unset] [(.ref b1), (.ref b10), (.ref b10)])) rfl (by rw [hml]; rfl) (a := b10) (argsL := [(.ref b1)]) (rest := [(.ref b10)]) (lenOf pd__C_V rfl) rfl (hb hby at_84) rfl e10 (by decide : 2 + 2 ≤ _) (by decide : 8 + 12 ≤ _)
  obtain ⟨rfl, N16q, K16, St16⟩ := hQ16
  have N16 := Fr.app N9 N16q
  have e16 : T16.heap = T16.heap := rfl
  have Zk16 : n0 ≤ T16.heap.size := Nat.le_trans Z10 K16.1
  have Kk16 : Keep h0 T16.heap [] := K10.trans K16 (allS (Or.inr sz_b10) all0)
  obtain ⟨_, T17, Lc17, X17, hQ17, st17⟩ := own_callS (W := 0) (y := mN1) X16 hx hZ hown (hw _ (own_w 48 rfl)) (hw _ (own_w 49 rfl)) (hw _ (own_w 50 rfl)) (hw _ (own_w 51 rfl)) (by decide) (rmA l Z av0 hw [] (own_c p1) T16.heap n0 Zk16 ) (by decide) (by decide) (g := (mkF m 97 #[iv p0, iv p1, iv p2, iv p3, iv p4, iv 4, iv (own_c p1), iv (own_c p2), iv (own_c p3), iv (own_c p4), rv b1, rv b10, .unset] [(.int (own_c p1))])) rfl (by rw [hml]; rfl) (argsL := [(.int (own_c p1))]) (rest := []) (lenOf pd__C_Z rfl) rfl (hb hby at_97) rfl e16 (by decide : 4 + 0 ≤ _) (by decide : 20 + 0 ≤ _)
  obtain ⟨rfl, N17q, hh17⟩ := hQ17
  have N17 := Fr.app N16 N17q
  have e17 : T17.heap = T16.heap := hh17
  have S18 : ∀ t, oS p e below T17 (mkF m 100 #[iv p0, iv p1, iv p2, iv p3, iv p4, iv 4, iv (own_c p1), iv (own_c p2), iv (own_c p3), iv (own_c p4), rv b1, rv b10, .unset] [(.int (own_al (own_c p1)))]) t → oS p e below s₁ (mkF m 0 #[iv p0, iv p1, iv p2, iv p3, iv p4, .unset, .unset, .unset, .unset, .unset, .unset, .unset, .unset] []) t := fun t k => id (by
    show oS p e below s₁ (mkF m 0 #[iv p0, iv p1, iv p2, iv p3, iv p4, .unset, .unset, .unset, .unset, .unset, .unset, .unset, .unset] []) _
    refine XS.iloadN X0.here hx rfl (hb hby at_0) rfl ?_
    refine X0.ldcI hx hown (mvT hZ (hw _ (own_w 0 rfl))) rfl (hb hby at_1) ?_
    refine XS.iand X0.here hx rfl (hb hby at_3) rfl ?_
    refine XT.iconstV X0.here hx rfl (5 : Int32) (hb hby at_4) (by decide) ?_
    refine XS.irem X0.here hx rfl (hb hby at_5) rfl (by decide) ?_
    show oS p e below s₁ (mkF m 6 #[iv p0, iv p1, iv p2, iv p3, iv p4, .unset, .unset, .unset, .unset, .unset, .unset, .unset, .unset] [(.int ((p0 &&& (2147483647 : Int32)) - ((p0 &&& (2147483647 : Int32)) / (5 : Int32)) * (5 : Int32)))]) _
    show Steps p.tables e below (s₁.setTop (mkF m 6 #[iv p0, iv p1, iv p2, iv p3, iv p4, .unset, .unset, .unset, .unset, .unset, .unset, .unset, .unset] [(.int (own_P p0 (5 : Int32)))])) _
    rw [hk]
    show oS p e below s₁ (mkF m 6 #[iv p0, iv p1, iv p2, iv p3, iv p4, .unset, .unset, .unset, .unset, .unset, .unset, .unset, .unset] [(.int 4)]) _
    refine XS.istore X0.here hx rfl (hb hby at_6) rfl (l' := #[iv p0, iv p1, iv p2, iv p3, iv p4, iv 4, .unset, .unset, .unset, .unset, .unset, .unset, .unset]) rfl ?_
    refine XS.iloadN X0.here hx rfl (hb hby at_8) rfl ?_
    refine XT.i2c X0.here hx rfl (hb hby at_9) rfl ?_
    show oS p e below s₁ (mkF m 10 #[iv p0, iv p1, iv p2, iv p3, iv p4, iv 4, .unset, .unset, .unset, .unset, .unset, .unset, .unset] [(.int (p1).toUInt32.toUInt16.toUInt32.toInt32)]) _
    skip
    show oS p e below s₁ (mkF m 10 #[iv p0, iv p1, iv p2, iv p3, iv p4, iv 4, .unset, .unset, .unset, .unset, .unset, .unset, .unset] [(.int (own_c p1))]) _
    refine XS.istore X0.here hx rfl (hb hby at_10) rfl (l' := #[iv p0, iv p1, iv p2, iv p3, iv p4, iv 4, iv (own_c p1), .unset, .unset, .unset, .unset, .unset, .unset]) rfl ?_
    refine XS.iloadN X0.here hx rfl (hb hby at_12) rfl ?_
    refine XT.i2c X0.here hx rfl (hb hby at_13) rfl ?_
    show oS p e below s₁ (mkF m 14 #[iv p0, iv p1, iv p2, iv p3, iv p4, iv 4, iv (own_c p1), .unset, .unset, .unset, .unset, .unset, .unset] [(.int (p2).toUInt32.toUInt16.toUInt32.toInt32)]) _
    skip
    show oS p e below s₁ (mkF m 14 #[iv p0, iv p1, iv p2, iv p3, iv p4, iv 4, iv (own_c p1), .unset, .unset, .unset, .unset, .unset, .unset] [(.int (own_c p2))]) _
    refine XS.istore X0.here hx rfl (hb hby at_14) rfl (l' := #[iv p0, iv p1, iv p2, iv p3, iv p4, iv 4, iv (own_c p1), iv (own_c p2), .unset, .unset, .unset, .unset, .unset]) rfl ?_
    refine XS.iloadN X0.here hx rfl (hb hby at_16) rfl ?_
    refine XT.i2c X0.here hx rfl (hb hby at_17) rfl ?_
    show oS p e below s₁ (mkF m 18 #[iv p0, iv p1, iv p2, iv p3, iv p4, iv 4, iv (own_c p1), iv (own_c p2), .unset, .unset, .unset, .unset, .unset] [(.int (p3).toUInt32.toUInt16.toUInt32.toInt32)]) _
    skip
    show oS p e below s₁ (mkF m 18 #[iv p0, iv p1, iv p2, iv p3, iv p4, iv 4, iv (own_c p1), iv (own_c p2), .unset, .unset, .unset, .unset, .unset] [(.int (own_c p3))]) _
    refine XS.istore X0.here hx rfl (hb hby at_18) rfl (l' := #[iv p0, iv p1, iv p2, iv p3, iv p4, iv 4, iv (own_c p1), iv (own_c p2), iv (own_c p3), .unset, .unset, .unset, .unset]) rfl ?_
    refine XS.iload X0.here hx rfl (hb hby at_20) rfl ?_
    show oS p e below s₁ (mkF m 22 #[iv p0, iv p1, iv p2, iv p3, iv p4, iv 4, iv (own_c p1), iv (own_c p2), iv (own_c p3), .unset, .unset, .unset, .unset] [(.int p4)]) _
    refine XT.i2c X0.here hx rfl (hb hby at_22) rfl ?_
    show oS p e below s₁ (mkF m 23 #[iv p0, iv p1, iv p2, iv p3, iv p4, iv 4, iv (own_c p1), iv (own_c p2), iv (own_c p3), .unset, .unset, .unset, .unset] [(.int (p4).toUInt32.toUInt16.toUInt32.toInt32)]) _
    skip
    show oS p e below s₁ (mkF m 23 #[iv p0, iv p1, iv p2, iv p3, iv p4, iv 4, iv (own_c p1), iv (own_c p2), iv (own_c p3), .unset, .unset, .unset, .unset] [(.int (own_c p4))]) _
    refine XS.istore X0.here hx rfl (hb hby at_23) rfl (l' := #[iv p0, iv p1, iv p2, iv p3, iv p4, iv 4, iv (own_c p1), iv (own_c p2), iv (own_c p3), iv (own_c p4), .unset, .unset, .unset]) rfl ?_
    refine XS.iload X0.here hx rfl (hb hby at_25) rfl ?_
    refine st1 _ ?_
    refine XS.astore X1.here hx rfl (hb hby at_29) rfl rfl (l' := #[iv p0, iv p1, iv p2, iv p3, iv p4, iv 4, iv (own_c p1), iv (own_c p2), iv (own_c p3), iv (own_c p4), rv b1, .unset, .unset]) rfl ?_
    refine XS.iload X1.here hx rfl (hb hby at_31) rfl ?_
    refine XS.ifNo X1.here hx rfl (hb hby at_33) rfl (XT.i0_le_f (by decide)) ?_
    refine XS.aload X1.here hx rfl (hb hby at_36) rfl rfl ?_
    refine XT.iconstV X1.here hx rfl (0 : Int32) (hb hby at_38) (by decide) ?_
    refine XS.iload X1.here hx rfl (hb hby at_39) rfl ?_
    refine st3 _ ?_
    refine XS.iload X3.here hx rfl (hb hby at_42) rfl ?_
    refine XT.iconstV X3.here hx rfl (1 : Int32) (hb hby at_44) (by decide) ?_
    refine XS.icmpNo X3.here hx rfl (hb hby at_45) rfl (XT.ii_le_f (by decide)) ?_
    refine XS.aload X3.here hx rfl (hb hby at_48) rfl rfl ?_
    refine XT.iconstV X3.here hx rfl (1 : Int32) (hb hby at_50) (by decide) ?_
    refine XS.iload X3.here hx rfl (hb hby at_51) rfl ?_
    refine st5 _ ?_
    refine XS.iload X5.here hx rfl (hb hby at_54) rfl ?_
    show oS p e below T5 (mkF m 56 #[iv p0, iv p1, iv p2, iv p3, iv p4, iv 4, iv (own_c p1), iv (own_c p2), iv (own_c p3), iv (own_c p4), rv b1, .unset, .unset] [(.int 4)]) _
    refine XT.iconstV X5.here hx rfl (2 : Int32) (hb hby at_56) (by decide) ?_
    refine XS.icmpNo X5.here hx rfl (hb hby at_57) rfl (XT.ii_le_f (by decide)) ?_
    refine XS.aload X5.here hx rfl (hb hby at_60) rfl rfl ?_
    refine XT.iconstV X5.here hx rfl (2 : Int32) (hb hby at_62) (by decide) ?_
    refine XS.iload X5.here hx rfl (hb hby at_63) rfl ?_
    refine st7 _ ?_
    refine XS.iload X7.here hx rfl (hb hby at_66) rfl ?_
    refine XT.iconstV X7.here hx rfl (3 : Int32) (hb hby at_68) (by decide) ?_
    refine XS.icmpNo X7.here hx rfl (hb hby at_69) rfl (XT.ii_le_f (by decide)) ?_
    refine XS.aload X7.here hx rfl (hb hby at_72) rfl rfl ?_
    refine XT.iconstV X7.here hx rfl (3 : Int32) (hb hby at_74) (by decide) ?_
    refine XS.iload X7.here hx rfl (hb hby at_75) rfl ?_
    refine st9 _ ?_
    refine st10 _ ?_
    refine XS.dup X10.here hx rfl (hb hby at_81) rfl rfl ?_
    refine XS.aload X10.here hx rfl (hb hby at_82) rfl rfl ?_
    refine st16 _ ?_
    refine XS.astore X16.here hx rfl (hb hby at_87) rfl rfl (l' := #[iv p0, iv p1, iv p2, iv p3, iv p4, iv 4, iv (own_c p1), iv (own_c p2), iv (own_c p3), iv (own_c p4), rv b1, rv b10, .unset]) rfl ?_
    refine XS.iload X16.here hx rfl (hb hby at_89) rfl ?_
    refine XT.iconstV X16.here hx rfl (1 : Int32) (hb hby at_91) (by decide) ?_
    show oS p e below T16 (mkF m 92 #[iv p0, iv p1, iv p2, iv p3, iv p4, iv 4, iv (own_c p1), iv (own_c p2), iv (own_c p3), iv (own_c p4), rv b1, rv b10, .unset] [(.int 1), (.int 4)]) _
    refine XS.icmpNo X16.here hx rfl (hb hby at_92) rfl (XT.ii_lt_f (by decide)) ?_
    refine XS.iload X16.here hx rfl (hb hby at_95) rfl ?_
    refine st17 _ ?_
    exact k)
  by_cases hc100_19 : (own_al (own_c p1)) = (0 : Int32)
  · have f20 := (A10.keep K16)
    have f21 := (own_stak f12 K16 (allS (own_exns A10) all0))
    have f22 := (own_stak ((((((hF.ext E1).wr W3).wr W5).wr W7).wr W9).ext E10) K16 (allS (own_exns A10) all0))
    have f23 := (own_stak f13 K16 (allS (own_exns A10) all0))
    have f24 := (own_stak f14 K16 (allS (own_exns A10) all0))
    have f25 := (own_stak f15 K16 (allS (own_exns A10) all0))
    obtain ⟨_, T26, Lc26, X26, hQ26, st26⟩ := own_callS (W := 0) (y := mN6) X17 hx hZ hown (hw _ (own_w 23 rfl)) (hw _ (own_w 24 rfl)) (hw _ (own_w 25 rfl)) (hw _ (own_w 26 rfl)) (by decide) (rmNs_4 l Z av0 hw [] b10 wC fm (own_c p1) (own_c p2) (own_c p3) (own_c p4) T16.heap n0 Zk16 f20 St16 f21 hw0 hfm f22 f23 f24 f25 (own_cr p1) (own_cr p2) (own_cr p3) (own_cr p4)) (by decide) (by decide) (g := (mkF m 154 #[iv p0, iv p1, iv p2, iv p3, iv p4, iv 4, iv (own_c p1), iv (own_c p2), iv (own_c p3), iv (own_c p4), rv b1, rv b10, iv 0] [(.ref b10)])) rfl (by rw [hml]; rfl) (argsL := [(.ref b10)]) (rest := []) (lenOf pd__Ljava_lang_String_Z rfl) rfl (hb hby at_154) rfl e17 (by decide : 4 + 0 ≤ _) (by decide : 20 + 0 ≤ _)
    obtain ⟨rfl, N26q, hh26⟩ := hQ26
    have N26 := Fr.app N17 N26q
    have e26 : T26.heap = T16.heap := hh26
    have S27 : ∀ t, oS p e below T26 (mkF m 167 #[iv p0, iv p1, iv p2, iv p3, iv p4, iv 4, iv (own_c p1), iv (own_c p2), iv (own_c p3), iv (own_c p4), rv b1, rv b10, iv 0] [(.int 1)]) t → oS p e below s₁ (mkF m 0 #[iv p0, iv p1, iv p2, iv p3, iv p4, .unset, .unset, .unset, .unset, .unset, .unset, .unset, .unset] []) t := fun t k => S18 t (by
      show oS p e below T17 (mkF m 100 #[iv p0, iv p1, iv p2, iv p3, iv p4, iv 4, iv (own_c p1), iv (own_c p2), iv (own_c p3), iv (own_c p4), rv b1, rv b10, .unset] [(.int (own_al (own_c p1)))]) _
      refine XS.ifYes X17.here hx rfl (pc0 := 100) (pc' := 149) rfl (hb hby at_100) rfl (XT.i0_eq_t hc100_19) (by decide) (by decide) ?_
      refine XT.iconstV X17.here hx rfl (0 : Int32) (hb hby at_149) (by decide) ?_
      refine XS.istore X17.here hx rfl (hb hby at_150) rfl (l' := #[iv p0, iv p1, iv p2, iv p3, iv p4, iv 4, iv (own_c p1), iv (own_c p2), iv (own_c p3), iv (own_c p4), rv b1, rv b10, iv 0]) rfl ?_
      refine XS.aload X17.here hx rfl (hb hby at_152) rfl rfl ?_
      refine st26 _ ?_
      refine XS.iload X26.here hx rfl (hb hby at_157) rfl ?_
      refine XS.icmpNo X26.here hx rfl (hb hby at_159) rfl (XT.ii_ne_f (by simp [own_step, own_end, hc100_19])) ?_
      refine XT.iconstV X26.here hx rfl (1 : Int32) (hb hby at_162) (by decide) ?_
      refine XS.goto X26.here hx rfl (pc0 := 163) (pc' := 167) rfl (hb hby at_163) (by decide) (by decide) ?_
      exact k)
    obtain ⟨fs, hr, hrun, hended, hW, hsame⟩ := X26.leave (v := some (.int 1)) (fun h => by rw [Bd.returns] at h; cases h)
    refine ⟨_, _, pre0 _ (S27 _ ?_), hrun, hended, _, _, rfl, ?_, ReturnedEndW.of_narrow ⟨_, rfl⟩ hW (hsame.mono (by decide) (by decide))⟩
    · exact retN X26 hx (t := .boolean) Bd.returns (by simp) (hb hby at_167) hr
    · show Qrm0 Z p0 p1 p2 p3 p4 wC fm h0 n0 _ T26.heap _
      rw [e26]
      exact ⟨rfl, N26⟩
  · obtain ⟨_, T28, Lc28, X28, hQ28, st28⟩ := own_callS (W := 0) (y := mN1) X17 hx hZ hown (hw _ (own_w 48 rfl)) (hw _ (own_w 49 rfl)) (hw _ (own_w 50 rfl)) (hw _ (own_w 51 rfl)) (by decide) (rmA l Z av0 hw [] (own_c p2) T16.heap n0 Zk16 ) (by decide) (by decide) (g := (mkF m 111 #[iv p0, iv p1, iv p2, iv p3, iv p4, iv 4, iv (own_c p1), iv (own_c p2), iv (own_c p3), iv (own_c p4), rv b1, rv b10, .unset] [(.int (own_c p2))])) rfl (by rw [hml]; rfl) (argsL := [(.int (own_c p2))]) (rest := []) (lenOf pd__C_Z rfl) rfl (hb hby at_111) rfl e17 (by decide : 4 + 0 ≤ _) (by decide : 20 + 0 ≤ _)
    obtain ⟨rfl, N28q, hh28⟩ := hQ28
    have N28 := Fr.app N17 N28q
    have e28 : T28.heap = T16.heap := hh28
    have S29 : ∀ t, oS p e below T28 (mkF m 114 #[iv p0, iv p1, iv p2, iv p3, iv p4, iv 4, iv (own_c p1), iv (own_c p2), iv (own_c p3), iv (own_c p4), rv b1, rv b10, .unset] [(.int (own_al (own_c p2)))]) t → oS p e below s₁ (mkF m 0 #[iv p0, iv p1, iv p2, iv p3, iv p4, .unset, .unset, .unset, .unset, .unset, .unset, .unset, .unset] []) t := fun t k => S18 t (by
      show oS p e below T17 (mkF m 100 #[iv p0, iv p1, iv p2, iv p3, iv p4, iv 4, iv (own_c p1), iv (own_c p2), iv (own_c p3), iv (own_c p4), rv b1, rv b10, .unset] [(.int (own_al (own_c p1)))]) _
      refine XS.ifNo X17.here hx rfl (hb hby at_100) rfl (XT.i0_eq_f hc100_19) ?_
      refine XS.iload X17.here hx rfl (hb hby at_103) rfl ?_
      refine XT.iconstV X17.here hx rfl (2 : Int32) (hb hby at_105) (by decide) ?_
      refine XS.icmpNo X17.here hx rfl (hb hby at_106) rfl (XT.ii_lt_f (by decide)) ?_
      refine XS.iload X17.here hx rfl (hb hby at_109) rfl ?_
      refine st28 _ ?_
      exact k)
    by_cases hc114_30 : (own_al (own_c p2)) = (0 : Int32)
    · have f31 := (A10.keep K16)
      have f32 := (own_stak f12 K16 (allS (own_exns A10) all0))
      have f33 := (own_stak ((((((hF.ext E1).wr W3).wr W5).wr W7).wr W9).ext E10) K16 (allS (own_exns A10) all0))
      have f34 := (own_stak f13 K16 (allS (own_exns A10) all0))
      have f35 := (own_stak f14 K16 (allS (own_exns A10) all0))
      have f36 := (own_stak f15 K16 (allS (own_exns A10) all0))
      obtain ⟨_, T37, Lc37, X37, hQ37, st37⟩ := own_callS (W := 0) (y := mN6) X28 hx hZ hown (hw _ (own_w 23 rfl)) (hw _ (own_w 24 rfl)) (hw _ (own_w 25 rfl)) (hw _ (own_w 26 rfl)) (by decide) (rmNs_4 l Z av0 hw [] b10 wC fm (own_c p1) (own_c p2) (own_c p3) (own_c p4) T16.heap n0 Zk16 f31 St16 f32 hw0 hfm f33 f34 f35 f36 (own_cr p1) (own_cr p2) (own_cr p3) (own_cr p4)) (by decide) (by decide) (g := (mkF m 154 #[iv p0, iv p1, iv p2, iv p3, iv p4, iv 4, iv (own_c p1), iv (own_c p2), iv (own_c p3), iv (own_c p4), rv b1, rv b10, iv 0] [(.ref b10)])) rfl (by rw [hml]; rfl) (argsL := [(.ref b10)]) (rest := []) (lenOf pd__Ljava_lang_String_Z rfl) rfl (hb hby at_154) rfl e28 (by decide : 4 + 0 ≤ _) (by decide : 20 + 0 ≤ _)
      obtain ⟨rfl, N37q, hh37⟩ := hQ37
      have N37 := Fr.app N28 N37q
      have e37 : T37.heap = T16.heap := hh37
      have S38 : ∀ t, oS p e below T37 (mkF m 167 #[iv p0, iv p1, iv p2, iv p3, iv p4, iv 4, iv (own_c p1), iv (own_c p2), iv (own_c p3), iv (own_c p4), rv b1, rv b10, iv 0] [(.int 1)]) t → oS p e below s₁ (mkF m 0 #[iv p0, iv p1, iv p2, iv p3, iv p4, .unset, .unset, .unset, .unset, .unset, .unset, .unset, .unset] []) t := fun t k => S29 t (by
        show oS p e below T28 (mkF m 114 #[iv p0, iv p1, iv p2, iv p3, iv p4, iv 4, iv (own_c p1), iv (own_c p2), iv (own_c p3), iv (own_c p4), rv b1, rv b10, .unset] [(.int (own_al (own_c p2)))]) _
        refine XS.ifYes X28.here hx rfl (pc0 := 114) (pc' := 149) rfl (hb hby at_114) rfl (XT.i0_eq_t hc114_30) (by decide) (by decide) ?_
        refine XT.iconstV X28.here hx rfl (0 : Int32) (hb hby at_149) (by decide) ?_
        refine XS.istore X28.here hx rfl (hb hby at_150) rfl (l' := #[iv p0, iv p1, iv p2, iv p3, iv p4, iv 4, iv (own_c p1), iv (own_c p2), iv (own_c p3), iv (own_c p4), rv b1, rv b10, iv 0]) rfl ?_
        refine XS.aload X28.here hx rfl (hb hby at_152) rfl rfl ?_
        refine st37 _ ?_
        refine XS.iload X37.here hx rfl (hb hby at_157) rfl ?_
        refine XS.icmpNo X37.here hx rfl (hb hby at_159) rfl (XT.ii_ne_f (by simp [own_step, own_end, hc100_19, hc114_30])) ?_
        refine XT.iconstV X37.here hx rfl (1 : Int32) (hb hby at_162) (by decide) ?_
        refine XS.goto X37.here hx rfl (pc0 := 163) (pc' := 167) rfl (hb hby at_163) (by decide) (by decide) ?_
        exact k)
      obtain ⟨fs, hr, hrun, hended, hW, hsame⟩ := X37.leave (v := some (.int 1)) (fun h => by rw [Bd.returns] at h; cases h)
      refine ⟨_, _, pre0 _ (S38 _ ?_), hrun, hended, _, _, rfl, ?_, ReturnedEndW.of_narrow ⟨_, rfl⟩ hW (hsame.mono (by decide) (by decide))⟩
      · exact retN X37 hx (t := .boolean) Bd.returns (by simp) (hb hby at_167) hr
      · show Qrm0 Z p0 p1 p2 p3 p4 wC fm h0 n0 _ T37.heap _
        rw [e37]
        exact ⟨rfl, N37⟩
    · obtain ⟨_, T39, Lc39, X39, hQ39, st39⟩ := own_callS (W := 0) (y := mN1) X28 hx hZ hown (hw _ (own_w 48 rfl)) (hw _ (own_w 49 rfl)) (hw _ (own_w 50 rfl)) (hw _ (own_w 51 rfl)) (by decide) (rmA l Z av0 hw [] (own_c p3) T16.heap n0 Zk16 ) (by decide) (by decide) (g := (mkF m 125 #[iv p0, iv p1, iv p2, iv p3, iv p4, iv 4, iv (own_c p1), iv (own_c p2), iv (own_c p3), iv (own_c p4), rv b1, rv b10, .unset] [(.int (own_c p3))])) rfl (by rw [hml]; rfl) (argsL := [(.int (own_c p3))]) (rest := []) (lenOf pd__C_Z rfl) rfl (hb hby at_125) rfl e28 (by decide : 4 + 0 ≤ _) (by decide : 20 + 0 ≤ _)
      obtain ⟨rfl, N39q, hh39⟩ := hQ39
      have N39 := Fr.app N28 N39q
      have e39 : T39.heap = T16.heap := hh39
      have S40 : ∀ t, oS p e below T39 (mkF m 128 #[iv p0, iv p1, iv p2, iv p3, iv p4, iv 4, iv (own_c p1), iv (own_c p2), iv (own_c p3), iv (own_c p4), rv b1, rv b10, .unset] [(.int (own_al (own_c p3)))]) t → oS p e below s₁ (mkF m 0 #[iv p0, iv p1, iv p2, iv p3, iv p4, .unset, .unset, .unset, .unset, .unset, .unset, .unset, .unset] []) t := fun t k => S29 t (by
        show oS p e below T28 (mkF m 114 #[iv p0, iv p1, iv p2, iv p3, iv p4, iv 4, iv (own_c p1), iv (own_c p2), iv (own_c p3), iv (own_c p4), rv b1, rv b10, .unset] [(.int (own_al (own_c p2)))]) _
        refine XS.ifNo X28.here hx rfl (hb hby at_114) rfl (XT.i0_eq_f hc114_30) ?_
        refine XS.iload X28.here hx rfl (hb hby at_117) rfl ?_
        refine XT.iconstV X28.here hx rfl (3 : Int32) (hb hby at_119) (by decide) ?_
        refine XS.icmpNo X28.here hx rfl (hb hby at_120) rfl (XT.ii_lt_f (by decide)) ?_
        refine XS.iload X28.here hx rfl (hb hby at_123) rfl ?_
        refine st39 _ ?_
        exact k)
      by_cases hc128_41 : (own_al (own_c p3)) = (0 : Int32)
      · have f42 := (A10.keep K16)
        have f43 := (own_stak f12 K16 (allS (own_exns A10) all0))
        have f44 := (own_stak ((((((hF.ext E1).wr W3).wr W5).wr W7).wr W9).ext E10) K16 (allS (own_exns A10) all0))
        have f45 := (own_stak f13 K16 (allS (own_exns A10) all0))
        have f46 := (own_stak f14 K16 (allS (own_exns A10) all0))
        have f47 := (own_stak f15 K16 (allS (own_exns A10) all0))
        obtain ⟨_, T48, Lc48, X48, hQ48, st48⟩ := own_callS (W := 0) (y := mN6) X39 hx hZ hown (hw _ (own_w 23 rfl)) (hw _ (own_w 24 rfl)) (hw _ (own_w 25 rfl)) (hw _ (own_w 26 rfl)) (by decide) (rmNs_4 l Z av0 hw [] b10 wC fm (own_c p1) (own_c p2) (own_c p3) (own_c p4) T16.heap n0 Zk16 f42 St16 f43 hw0 hfm f44 f45 f46 f47 (own_cr p1) (own_cr p2) (own_cr p3) (own_cr p4)) (by decide) (by decide) (g := (mkF m 154 #[iv p0, iv p1, iv p2, iv p3, iv p4, iv 4, iv (own_c p1), iv (own_c p2), iv (own_c p3), iv (own_c p4), rv b1, rv b10, iv 0] [(.ref b10)])) rfl (by rw [hml]; rfl) (argsL := [(.ref b10)]) (rest := []) (lenOf pd__Ljava_lang_String_Z rfl) rfl (hb hby at_154) rfl e39 (by decide : 4 + 0 ≤ _) (by decide : 20 + 0 ≤ _)
        obtain ⟨rfl, N48q, hh48⟩ := hQ48
        have N48 := Fr.app N39 N48q
        have e48 : T48.heap = T16.heap := hh48
        have S49 : ∀ t, oS p e below T48 (mkF m 167 #[iv p0, iv p1, iv p2, iv p3, iv p4, iv 4, iv (own_c p1), iv (own_c p2), iv (own_c p3), iv (own_c p4), rv b1, rv b10, iv 0] [(.int 1)]) t → oS p e below s₁ (mkF m 0 #[iv p0, iv p1, iv p2, iv p3, iv p4, .unset, .unset, .unset, .unset, .unset, .unset, .unset, .unset] []) t := fun t k => S40 t (by
          show oS p e below T39 (mkF m 128 #[iv p0, iv p1, iv p2, iv p3, iv p4, iv 4, iv (own_c p1), iv (own_c p2), iv (own_c p3), iv (own_c p4), rv b1, rv b10, .unset] [(.int (own_al (own_c p3)))]) _
          refine XS.ifYes X39.here hx rfl (pc0 := 128) (pc' := 149) rfl (hb hby at_128) rfl (XT.i0_eq_t hc128_41) (by decide) (by decide) ?_
          refine XT.iconstV X39.here hx rfl (0 : Int32) (hb hby at_149) (by decide) ?_
          refine XS.istore X39.here hx rfl (hb hby at_150) rfl (l' := #[iv p0, iv p1, iv p2, iv p3, iv p4, iv 4, iv (own_c p1), iv (own_c p2), iv (own_c p3), iv (own_c p4), rv b1, rv b10, iv 0]) rfl ?_
          refine XS.aload X39.here hx rfl (hb hby at_152) rfl rfl ?_
          refine st48 _ ?_
          show oS p e below T48 (mkF m 157 #[iv p0, iv p1, iv p2, iv p3, iv p4, iv 4, iv (own_c p1), iv (own_c p2), iv (own_c p3), iv (own_c p4), rv b1, rv b10, iv 0] [(.int (own_ns [(own_c p1), (own_c p2), (own_c p3), (own_c p4)]))]) _
          refine XS.iload X48.here hx rfl (hb hby at_157) rfl ?_
          refine XS.icmpNo X48.here hx rfl (hb hby at_159) rfl (XT.ii_ne_f (by simp [own_step, own_end, hc100_19, hc114_30, hc128_41])) ?_
          refine XT.iconstV X48.here hx rfl (1 : Int32) (hb hby at_162) (by decide) ?_
          refine XS.goto X48.here hx rfl (pc0 := 163) (pc' := 167) rfl (hb hby at_163) (by decide) (by decide) ?_
          exact k)
        obtain ⟨fs, hr, hrun, hended, hW, hsame⟩ := X48.leave (v := some (.int 1)) (fun h => by rw [Bd.returns] at h; cases h)
        refine ⟨_, _, pre0 _ (S49 _ ?_), hrun, hended, _, _, rfl, ?_, ReturnedEndW.of_narrow ⟨_, rfl⟩ hW (hsame.mono (by decide) (by decide))⟩
        · exact retN X48 hx (t := .boolean) Bd.returns (by simp) (hb hby at_167) hr
        · show Qrm0 Z p0 p1 p2 p3 p4 wC fm h0 n0 _ T48.heap _
          rw [e48]
          exact ⟨rfl, N48⟩
      · obtain ⟨_, T50, Lc50, X50, hQ50, st50⟩ := own_callS (W := 0) (y := mN1) X39 hx hZ hown (hw _ (own_w 48 rfl)) (hw _ (own_w 49 rfl)) (hw _ (own_w 50 rfl)) (hw _ (own_w 51 rfl)) (by decide) (rmA l Z av0 hw [] (own_c p4) T16.heap n0 Zk16 ) (by decide) (by decide) (g := (mkF m 139 #[iv p0, iv p1, iv p2, iv p3, iv p4, iv 4, iv (own_c p1), iv (own_c p2), iv (own_c p3), iv (own_c p4), rv b1, rv b10, .unset] [(.int (own_c p4))])) rfl (by rw [hml]; rfl) (argsL := [(.int (own_c p4))]) (rest := []) (lenOf pd__C_Z rfl) rfl (hb hby at_139) rfl e39 (by decide : 4 + 0 ≤ _) (by decide : 20 + 0 ≤ _)
        obtain ⟨rfl, N50q, hh50⟩ := hQ50
        have N50 := Fr.app N39 N50q
        have e50 : T50.heap = T16.heap := hh50
        have S51 : ∀ t, oS p e below T50 (mkF m 142 #[iv p0, iv p1, iv p2, iv p3, iv p4, iv 4, iv (own_c p1), iv (own_c p2), iv (own_c p3), iv (own_c p4), rv b1, rv b10, .unset] [(.int (own_al (own_c p4)))]) t → oS p e below s₁ (mkF m 0 #[iv p0, iv p1, iv p2, iv p3, iv p4, .unset, .unset, .unset, .unset, .unset, .unset, .unset, .unset] []) t := fun t k => S40 t (by
          show oS p e below T39 (mkF m 128 #[iv p0, iv p1, iv p2, iv p3, iv p4, iv 4, iv (own_c p1), iv (own_c p2), iv (own_c p3), iv (own_c p4), rv b1, rv b10, .unset] [(.int (own_al (own_c p3)))]) _
          refine XS.ifNo X39.here hx rfl (hb hby at_128) rfl (XT.i0_eq_f hc128_41) ?_
          refine XS.iload X39.here hx rfl (hb hby at_131) rfl ?_
          refine XT.iconstV X39.here hx rfl (4 : Int32) (hb hby at_133) (by decide) ?_
          refine XS.icmpNo X39.here hx rfl (hb hby at_134) rfl (XT.ii_lt_f (by decide)) ?_
          refine XS.iload X39.here hx rfl (hb hby at_137) rfl ?_
          show oS p e below T39 (mkF m 139 #[iv p0, iv p1, iv p2, iv p3, iv p4, iv 4, iv (own_c p1), iv (own_c p2), iv (own_c p3), iv (own_c p4), rv b1, rv b10, .unset] [(.int (own_c p4))]) _
          refine st50 _ ?_
          exact k)
        by_cases hc142_52 : (own_al (own_c p4)) = (0 : Int32)
        · have f53 := (A10.keep K16)
          have f54 := (own_stak f12 K16 (allS (own_exns A10) all0))
          have f55 := (own_stak ((((((hF.ext E1).wr W3).wr W5).wr W7).wr W9).ext E10) K16 (allS (own_exns A10) all0))
          have f56 := (own_stak f13 K16 (allS (own_exns A10) all0))
          have f57 := (own_stak f14 K16 (allS (own_exns A10) all0))
          have f58 := (own_stak f15 K16 (allS (own_exns A10) all0))
          obtain ⟨_, T59, Lc59, X59, hQ59, st59⟩ := own_callS (W := 0) (y := mN6) X50 hx hZ hown (hw _ (own_w 23 rfl)) (hw _ (own_w 24 rfl)) (hw _ (own_w 25 rfl)) (hw _ (own_w 26 rfl)) (by decide) (rmNs_4 l Z av0 hw [] b10 wC fm (own_c p1) (own_c p2) (own_c p3) (own_c p4) T16.heap n0 Zk16 f53 St16 f54 hw0 hfm f55 f56 f57 f58 (own_cr p1) (own_cr p2) (own_cr p3) (own_cr p4)) (by decide) (by decide) (g := (mkF m 154 #[iv p0, iv p1, iv p2, iv p3, iv p4, iv 4, iv (own_c p1), iv (own_c p2), iv (own_c p3), iv (own_c p4), rv b1, rv b10, iv 0] [(.ref b10)])) rfl (by rw [hml]; rfl) (argsL := [(.ref b10)]) (rest := []) (lenOf pd__Ljava_lang_String_Z rfl) rfl (hb hby at_154) rfl e50 (by decide : 4 + 0 ≤ _) (by decide : 20 + 0 ≤ _)
          obtain ⟨rfl, N59q, hh59⟩ := hQ59
          have N59 := Fr.app N50 N59q
          have e59 : T59.heap = T16.heap := hh59
          have S60 : ∀ t, oS p e below T59 (mkF m 167 #[iv p0, iv p1, iv p2, iv p3, iv p4, iv 4, iv (own_c p1), iv (own_c p2), iv (own_c p3), iv (own_c p4), rv b1, rv b10, iv 0] [(.int 1)]) t → oS p e below s₁ (mkF m 0 #[iv p0, iv p1, iv p2, iv p3, iv p4, .unset, .unset, .unset, .unset, .unset, .unset, .unset, .unset] []) t := fun t k => S51 t (by
            show oS p e below T50 (mkF m 142 #[iv p0, iv p1, iv p2, iv p3, iv p4, iv 4, iv (own_c p1), iv (own_c p2), iv (own_c p3), iv (own_c p4), rv b1, rv b10, .unset] [(.int (own_al (own_c p4)))]) _
            refine XS.ifYes X50.here hx rfl (pc0 := 142) (pc' := 149) rfl (hb hby at_142) rfl (XT.i0_eq_t hc142_52) (by decide) (by decide) ?_
            refine XT.iconstV X50.here hx rfl (0 : Int32) (hb hby at_149) (by decide) ?_
            refine XS.istore X50.here hx rfl (hb hby at_150) rfl (l' := #[iv p0, iv p1, iv p2, iv p3, iv p4, iv 4, iv (own_c p1), iv (own_c p2), iv (own_c p3), iv (own_c p4), rv b1, rv b10, iv 0]) rfl ?_
            refine XS.aload X50.here hx rfl (hb hby at_152) rfl rfl ?_
            refine st59 _ ?_
            refine XS.iload X59.here hx rfl (hb hby at_157) rfl ?_
            refine XS.icmpNo X59.here hx rfl (hb hby at_159) rfl (XT.ii_ne_f (by simp [own_step, own_end, hc100_19, hc114_30, hc128_41, hc142_52])) ?_
            refine XT.iconstV X59.here hx rfl (1 : Int32) (hb hby at_162) (by decide) ?_
            refine XS.goto X59.here hx rfl (pc0 := 163) (pc' := 167) rfl (hb hby at_163) (by decide) (by decide) ?_
            exact k)
          obtain ⟨fs, hr, hrun, hended, hW, hsame⟩ := X59.leave (v := some (.int 1)) (fun h => by rw [Bd.returns] at h; cases h)
          refine ⟨_, _, pre0 _ (S60 _ ?_), hrun, hended, _, _, rfl, ?_, ReturnedEndW.of_narrow ⟨_, rfl⟩ hW (hsame.mono (by decide) (by decide))⟩
          · exact retN X59 hx (t := .boolean) Bd.returns (by simp) (hb hby at_167) hr
          · show Qrm0 Z p0 p1 p2 p3 p4 wC fm h0 n0 _ T59.heap _
            rw [e59]
            exact ⟨rfl, N59⟩
        · have f61 := (A10.keep K16)
          have f62 := (own_stak f12 K16 (allS (own_exns A10) all0))
          have f63 := (own_stak ((((((hF.ext E1).wr W3).wr W5).wr W7).wr W9).ext E10) K16 (allS (own_exns A10) all0))
          have f64 := (own_stak f13 K16 (allS (own_exns A10) all0))
          have f65 := (own_stak f14 K16 (allS (own_exns A10) all0))
          have f66 := (own_stak f15 K16 (allS (own_exns A10) all0))
          obtain ⟨_, T67, Lc67, X67, hQ67, st67⟩ := own_callS (W := 0) (y := mN6) X50 hx hZ hown (hw _ (own_w 23 rfl)) (hw _ (own_w 24 rfl)) (hw _ (own_w 25 rfl)) (hw _ (own_w 26 rfl)) (by decide) (rmNs_4 l Z av0 hw [] b10 wC fm (own_c p1) (own_c p2) (own_c p3) (own_c p4) T16.heap n0 Zk16 f61 St16 f62 hw0 hfm f63 f64 f65 f66 (own_cr p1) (own_cr p2) (own_cr p3) (own_cr p4)) (by decide) (by decide) (g := (mkF m 154 #[iv p0, iv p1, iv p2, iv p3, iv p4, iv 4, iv (own_c p1), iv (own_c p2), iv (own_c p3), iv (own_c p4), rv b1, rv b10, iv 1] [(.ref b10)])) rfl (by rw [hml]; rfl) (argsL := [(.ref b10)]) (rest := []) (lenOf pd__Ljava_lang_String_Z rfl) rfl (hb hby at_154) rfl e50 (by decide : 4 + 0 ≤ _) (by decide : 20 + 0 ≤ _)
          obtain ⟨rfl, N67q, hh67⟩ := hQ67
          have N67 := Fr.app N50 N67q
          have e67 : T67.heap = T16.heap := hh67
          have S68 : ∀ t, oS p e below T67 (mkF m 167 #[iv p0, iv p1, iv p2, iv p3, iv p4, iv 4, iv (own_c p1), iv (own_c p2), iv (own_c p3), iv (own_c p4), rv b1, rv b10, iv 1] [(.int 1)]) t → oS p e below s₁ (mkF m 0 #[iv p0, iv p1, iv p2, iv p3, iv p4, .unset, .unset, .unset, .unset, .unset, .unset, .unset, .unset] []) t := fun t k => S51 t (by
            show oS p e below T50 (mkF m 142 #[iv p0, iv p1, iv p2, iv p3, iv p4, iv 4, iv (own_c p1), iv (own_c p2), iv (own_c p3), iv (own_c p4), rv b1, rv b10, .unset] [(.int (own_al (own_c p4)))]) _
            refine XS.ifNo X50.here hx rfl (hb hby at_142) rfl (XT.i0_eq_f hc142_52) ?_
            refine XT.iconstV X50.here hx rfl (1 : Int32) (hb hby at_145) (by decide) ?_
            refine XS.goto X50.here hx rfl (pc0 := 146) (pc' := 150) rfl (hb hby at_146) (by decide) (by decide) ?_
            refine XS.istore X50.here hx rfl (hb hby at_150) rfl (l' := #[iv p0, iv p1, iv p2, iv p3, iv p4, iv 4, iv (own_c p1), iv (own_c p2), iv (own_c p3), iv (own_c p4), rv b1, rv b10, iv 1]) rfl ?_
            refine XS.aload X50.here hx rfl (hb hby at_152) rfl rfl ?_
            refine st67 _ ?_
            refine XS.iload X67.here hx rfl (hb hby at_157) rfl ?_
            refine XS.icmpNo X67.here hx rfl (hb hby at_159) rfl (XT.ii_ne_f (by simp [own_step, own_end, hc100_19, hc114_30, hc128_41, hc142_52])) ?_
            refine XT.iconstV X67.here hx rfl (1 : Int32) (hb hby at_162) (by decide) ?_
            refine XS.goto X67.here hx rfl (pc0 := 163) (pc' := 167) rfl (hb hby at_163) (by decide) (by decide) ?_
            exact k)
          obtain ⟨fs, hr, hrun, hended, hW, hsame⟩ := X67.leave (v := some (.int 1)) (fun h => by rw [Bd.returns] at h; cases h)
          refine ⟨_, _, pre0 _ (S68 _ ?_), hrun, hended, _, _, rfl, ?_, ReturnedEndW.of_narrow ⟨_, rfl⟩ hW (hsame.mono (by decide) (by decide))⟩
          · exact retN X67 hx (t := .boolean) Bd.returns (by simp) (hb hby at_167) hr
          · show Qrm0 Z p0 p1 p2 p3 p4 wC fm h0 n0 _ T67.heap _
            rw [e67]
            exact ⟨rfl, N67⟩
theorem rm0 (l : Launch) (Z : State) (av0 : Array Value) (hw : ∀ d ∈ tables_1, d.before av0 Z = true) (ws : List Jvm.Cond) (p0 p1 p2 p3 p4 : Int32) (wC : Int32) (fm : Value) (h0 : Heap) (n0 : Nat) (Z0 : n0 ≤ h0.size) (hS : Sta Z h0 "java/lang/String" "COMPACT_STRINGS" "Z" (.int wC)) (hw0 : ¬ wC = (0 : Int32)) (hfm : fm.isRef = true) (hF : Sta Z h0 "jdk/internal/util/Preconditions" "SIOOBE_FORMATTER" "Ljava/util/function/BiFunction;" fm) (sA : Sta Z h0 "java/lang/StringUTF16" "$assertionsDisabled" "Z" (.int (1 : Int32))) (sH : Sta Z h0 "java/lang/StringUTF16" "HI_BYTE_SHIFT" "I" (.int (0 : Int32))) (sL : Sta Z h0 "java/lang/StringUTF16" "LO_BYTE_SHIFT" "I" (.int (8 : Int32))) (hkp : ∀ (b : Addr) (cl : Cell), Z.heap[b]? = some cl → h0[b]? = some cl) (hcH : Jvm.Lit.constHeld Z "java/lang/String" 7) (hcw : Jvm.Lit.compactW.before av0 Z = true) :
    MetFree l x (head1 (Jvm.Cond.code x code maxLocals ret :: ws) room_1) (fun a U => a = #[(.int p0), (.int p1), (.int p2), (.int p3), (.int p4)] ∧ Z.Warmed39 U.vm ∧ U.heap = h0 ∧ IB Z U.vm []) (fun _ _ _ _ _ => True) (fun _ U o U' => ∃ v L, o = .returned v ∧ Qrm0 Z p0 p1 p2 p3 p4 wC fm h0 n0 v U'.heap L ∧ ReturnedEndW U o U' L room_1.cells room_1.slots) := by
  rcases own_P5 p0 with h | h | h | h | h
  · exact rm0_0 l Z av0 hw ws p0 p1 p2 p3 p4 wC fm h0 n0 Z0 hS hw0 hfm hF sA sH sL hkp hcH hcw h
  · exact rm0_1 l Z av0 hw ws p0 p1 p2 p3 p4 wC fm h0 n0 Z0 hS hw0 hfm hF sA sH sL hkp hcH hcw h
  · exact rm0_2 l Z av0 hw ws p0 p1 p2 p3 p4 wC fm h0 n0 Z0 hS hw0 hfm hF sA sH sL hkp hcH hcw h
  · exact rm0_3 l Z av0 hw ws p0 p1 p2 p3 p4 wC fm h0 n0 Z0 hS hw0 hfm hF sA sH sL hkp hcH hcw h
  · exact rm0_4 l Z av0 hw ws p0 p1 p2 p3 p4 wC fm h0 n0 Z0 hS hw0 hfm hF sA sH sL hkp hcH hcw h
set_option maxRecDepth 65536 in
set_option maxHeartbeats 40000000 in
theorem comes_1 {Post : Tables → Env → Array Value → State → Outcome → State → Prop} (hpost : ∀ tb e args s v u, (limb_1_1.after args s (.returned v) u = true ∧ limb_1_2.after args s (.returned v) u = true ∧ True) → Jvm.ReturnedEndW s (.returned v) u (Jvm.fieldLocs frame_1_writes args s ++ Jvm.arrayLocs frame_1_arrays args s ++ Jvm.staticLocs frame_1_statics s) 24 1152 → Post tb e args s (.returned v) u) :
    ArmFor flags0 classFile x code maxLocals ret World_1 tables_1 room_1 Calls_1 rest_1 Pre_1 Post := by
  intro l hfl _ _ p e ha hc hk s m args below hf hA hF happ hP
  obtain ⟨hcalls, hrest, hpre⟩ := hP
  obtain ⟨-, -, -, hnamed, -, -, -, hat⟩ := (Spec.applies_iff hf).mp happ
  obtain ⟨hg, hn⟩ := and_e (Cond.before_iff.mp (show (Jvm.Cond.and given_1 narrow_1).before args s = true from hpre))
  obtain ⟨g0, r0⟩ := and_e hg
  obtain ⟨g1, r1⟩ := and_e r0
  obtain ⟨g2, r2⟩ := and_e r1
  obtain ⟨g3, r3⟩ := and_e r2
  obtain ⟨g4, r4⟩ := and_e r3
  obtain ⟨w0, w1, w2, w3, w4, rfl⟩ : ∃ w0 w1 w2 w3 w4 : Value, args = #[w0, w1, w2, w3, w4] := by
    have hs : args.size = 5 := by simpa [Cond.value, given_1] using g0
    obtain ⟨L⟩ := args
    match L, hs with
    | [w0, w1, w2, w3, w4], _ => exact ⟨w0, w1, w2, w3, w4, rfl⟩
  have hw := fun d (hd : d ∈ tables_1) => atoms_spec (ws := Jvm.Cond.code x code maxLocals ret :: tables_1) hat d (List.mem_cons_of_mem _ hd)
  have hfit : Fit s := fun {y c} hc i hi => by
    obtain ⟨ha, rfl⟩ := Array.getElem?_eq_some_iff.mp hc
    have q := List.all_eq_true.mp ((Array.all_eq_true_iff_forall_mem.mp hF) _ (Array.getElem_mem ha)) i (List.mem_range.mpr hi)
    simpa [Array.getElem?_eq_getElem hi] using q
  obtain ⟨i0, ei0⟩ := is_v g1
  obtain rfl : w0 = (.int i0) := Option.some.inj ei0
  obtain ⟨i1, ei1⟩ := is_v g2
  obtain rfl : w1 = (.int i1) := Option.some.inj ei1
  obtain ⟨i2, ei2⟩ := is_v g3
  obtain rfl : w2 = (.int i2) := Option.some.inj ei2
  obtain ⟨i3, ei3⟩ := is_v g4
  obtain rfl : w3 = (.int i3) := Option.some.inj ei3
  obtain ⟨i4, ei4⟩ := is_v r4
  obtain rfl : w4 = (.int i4) := Option.some.inj ei4
  have hr0 := Cond.before_iff.mp (show rest_1_c.before _ s = true from hrest)
  obtain ⟨u0, hr1⟩ := and_e hr0
  obtain ⟨u1, hr2⟩ := and_e hr1
  obtain ⟨u2, hr3⟩ := and_e hr2
  obtain ⟨u3, hr4⟩ := and_e hr3
  obtain ⟨u4, hr5⟩ := and_e hr4
  obtain ⟨u5, hr6⟩ := and_e hr5
  obtain ⟨u6, hr7⟩ := and_e hr6
  obtain ⟨u7, hr8⟩ := and_e hr7
  obtain ⟨u8, hr9⟩ := and_e hr8
  obtain ⟨u9, hr10⟩ := and_e hr9
  obtain ⟨u10, hr11⟩ := and_e hr10
  obtain ⟨u11, hr12⟩ := and_e hr11
  obtain ⟨u12, hr13⟩ := and_e hr12
  obtain ⟨u13, hr14⟩ := and_e hr13
  obtain ⟨u14, hr15⟩ := and_e hr14
  obtain ⟨u15, hr16⟩ := and_e hr15
  obtain ⟨u16, hr17⟩ := and_e hr16
  obtain ⟨u17, hr18⟩ := and_e hr17
  obtain ⟨u18, hr19⟩ := and_e hr18
  obtain ⟨wC, evC⟩ := is_v u1
  have hSC := Sta.start evC (Or.inl (Cond.before_iff.mpr u0))
  have hwC : ¬ wC = (0 : Int32) := gotF (Cond.eq_ints evC (Term.int_eval 0)) (not_v u2)
  have hcH : Jvm.Lit.constHeld s "java/lang/String" 7 := (show ∀ p ∈ consts_1, Jvm.Lit.constHeld s p.1 p.2 from hcalls.1) _ (List.mem_of_getElem? (i := 0) rfl)
  have hcw : Jvm.Lit.compactW.before _ s = true := Cond.before_iff.mpr u2
  obtain ⟨fm, evF, hfm⟩ := isR_v u8
  have hF := Sta.start evF (Or.inl (Cond.before_iff.mpr u7))
  have sA := Sta.start (Cond.eq_int (Cond.before_iff.mpr u12) rfl) (Or.inl (Cond.before_iff.mpr u11))
  have sH := Sta.start (Cond.eq_int (Cond.before_iff.mpr u15) rfl) (Or.inl (Cond.before_iff.mpr u14))
  have sL := Sta.start (Cond.eq_int (Cond.before_iff.mpr u18) rfl) (Or.inl (Cond.before_iff.mpr u17))
  obtain ⟨n, o, h1, h2, h3, _, L, rfl, ⟨rfl, N⟩, hq⟩ := rm0 l s _ hw tables_1 i0 i1 i2 i3 i4 wC fm s.heap s.heap.size (Nat.le_refl _) hSC hwC hfm hF sA sH sL (fun _ _ q => q) hcH hcw p e ha hc hk s m _ below hf ((Spec.applies_iff_loose hf).mp happ).1 ⟨rfl, State.Warmed39.refl s, rfl, IB.start⟩ trivial
  refine ⟨n, _, h1, h2, h3, hpost _ _ _ _ _ _ ⟨Cond.after_iff.mpr rfl, Cond.after_iff.mpr (eq_i res_at (Term.int_eval (1)) rfl), trivial⟩ ⟨hq.1, hq.2.1, hq.2.2.1, (hq.2.2.2.sift fun y hy => Or.inr (N y hy)).mono (by decide) (by decide)⟩⟩
theorem main_1_1 : Claimed_1_1 := comes_1 fun _ _ _ _ _ _ h hF => ⟨h.1, hF⟩
theorem main_1_2 : Claimed_1_2 := comes_1 fun _ _ _ _ _ _ h hF => ⟨h.2.1, hF⟩
end Jvm.Pilot.@@N@@
namespace Jvm.Pilot.@@N@@
open Jvm Jvm.ClassFile Sem Op Lib Jvm.Free Jvm.Stand Jvm.Pilot.@@N@@.Jvm.D
/-! MADE BY PROGRAM (witnessworld.py) out of the Statement's table words and the real class files: 22 classes; the members and pool entries that the words name. The judged class is class 1, her method 1. -/
namespace start1
open Jvm.ClassFile
def u (s : String) : CpInfo := .utf8 (stringToUtf16 s)
/-- a pool by its gaps: so many unusable entries, then the entry; so many at the end -/
def gap : Nat → List CpInfo → List CpInfo
  | 0, r => r
  | n + 1, r => .unusable :: gap n r
def poolList (es : List (Nat × CpInfo)) (last : Nat) : List CpInfo := es.foldr (fun e r => gap e.1 (e.2 :: r)) (gap last [])
def pool (es : List (Nat × CpInfo)) (last : Nat) : Array CpInfo := ⟨poolList es last⟩
def fileOf (pool : Array CpInfo) (this : Nat) (attrs : Array Attribute := #[]) (ms : Array MethodInfo := #[]) (fl : Nat := 33) (sup : Nat := 0) (ifs : Array Nat := #[]) (fds : Array FieldInfo := #[]) : ClassFile where
  minorVersion := 0
  majorVersion := 65
  constantPool := pool
  accessFlags := fl
  thisClass := this
  superClass := sup
  interfaces := ifs
  fields := fds
  methods := ms
  attributes := attrs
def plain (name : String) (sup : Option ClassId) : Class where
  name := name
  kind := .ordinary
  loader := none
  accessFlags := 33
  super := sup
  interfaces := #[]
  cf := none
  fields := #[]
  methods := #[]
  instanceTypes := #[]
  staticTypes := #[]
  resolved := #[]
  callSites := []
  init := .initialized
  statics := none
  mirror := none

def pool0 : Array CpInfo := pool [(5, u "<init>"), (0, u "()V"), (1, .class_ 10), (1, u "java/lang/Object")] 113

def k0c0 : Code := { maxStack := 0, maxLocals := 1, code := object_method_1_code, exceptionTable := #[], attributes := #[] }
def k0m0 : Method := { name := "<init>", desc := "()V", sig := { parameters := [], returnType := none }, accessFlags := 1, code := some k0c0 }
/-- java/lang/Object -/
def k0 : Class := { plain "java/lang/Object" none with
  accessFlags := 33
  interfaces := #[]
  cf := some (fileOf pool0 8 #[] #[{ accessFlags := 1, nameIndex := 5, descriptorIndex := 6, attributes := #[] }] 33 0 #[] #[])
  fields := #[]
  methods := #[k0m0]
  instanceTypes := #[]
  staticTypes := #[]
  resolved := Array.replicate 124 none
  statics := none }

def pool1 : Array CpInfo := pool [(2, .class_ 4), (1, u "java/lang/Object"), (0, u "<init>"), (0, u "()V"), (0, .integer 2147483647), (0, .class_ 9), (0, u "java/lang/String"), (0, .methodref 8 11), (0, .nameAndType 5 12), (0, u "([C)V"), (0, .methodref 14 15), (0, .class_ 16), (0, .nameAndType 17 18), (0, u "com/example/headwater/headwater/core/XsNamesIsNamespaceNamePinLaw"), (0, u "allowed"), (0, u "(C)Z"), (0, .methodref 20 21), (0, .class_ 22), (0, .nameAndType 23 24), (0, u "com/example/headwater/headwater/core/XsNames"), (0, u "isNamespaceName"), (0, u "(Ljava/lang/String;)Z"), (2, u "law"), (0, u "(IIIII)Z")] 5

def k1m0 : Method := { name := "<init>", desc := "()V", sig := { parameters := [], returnType := none }, accessFlags := 1, code := none }
def k1c1 : Code := { maxStack := 3, maxLocals := 13, code := code, exceptionTable := #[], attributes := #[] }
def k1m1 : Method := { name := "law", desc := "(IIIII)Z", sig := { parameters := [.int, .int, .int, .int, .int], returnType := some .boolean }, accessFlags := 9, code := some k1c1 }
def k1c2 : Code := { maxStack := 2, maxLocals := 2, code := method_3_code, exceptionTable := #[], attributes := #[] }
def k1m2 : Method := { name := "allowed", desc := "(C)Z", sig := { parameters := [.char], returnType := some .boolean }, accessFlags := 10, code := some k1c2 }
/-- com/example/headwater/headwater/core/XsNamesIsNamespaceNamePinLaw -/
def k1 : Class := { plain "com/example/headwater/headwater/core/XsNamesIsNamespaceNamePinLaw" (some 0) with
  accessFlags := 49
  interfaces := #[]
  cf := some (fileOf pool1 14 #[] #[{ accessFlags := 1, nameIndex := 5, descriptorIndex := 6, attributes := #[] }, { accessFlags := 9, nameIndex := 27, descriptorIndex := 28, attributes := #[] }, { accessFlags := 10, nameIndex := 17, descriptorIndex := 18, attributes := #[] }] 49 2 #[] #[])
  fields := #[]
  methods := #[k1m0, k1m1, k1m2]
  instanceTypes := #[]
  staticTypes := #[]
  resolved := Array.replicate 34 none
  statics := none }

def pool2 : Array CpInfo := pool [(1, .class_ 2), (0, u "java/io/Serializable"), (0, .class_ 4), (0, u "java/lang/Object")] 2

/-- java/io/Serializable -/
def k2 : Class := { plain "java/io/Serializable" (some 0) with
  accessFlags := 1537
  interfaces := #[]
  cf := some (fileOf pool2 1 #[] #[] 1537 3 #[] #[])
  fields := #[]
  methods := #[]
  instanceTypes := #[]
  staticTypes := #[]
  resolved := Array.replicate 7 none
  statics := none }

def pool3 : Array CpInfo := pool [(1, .class_ 2), (0, u "java/lang/Comparable"), (0, .class_ 4), (0, u "java/lang/Object")] 7

/-- java/lang/Comparable -/
def k3 : Class := { plain "java/lang/Comparable" (some 0) with
  accessFlags := 1537
  interfaces := #[]
  cf := some (fileOf pool3 1 #[] #[] 1537 3 #[] #[])
  fields := #[]
  methods := #[]
  instanceTypes := #[]
  staticTypes := #[]
  resolved := Array.replicate 12 none
  statics := none }

def pool4 : Array CpInfo := pool [(2, .class_ 4), (1, u "java/lang/CharSequence"), (42, .class_ 48), (0, u "java/lang/CharSequence$1CodePointIterator"), (10, .class_ 60), (0, u "java/lang/CharSequence$1CharIterator"), (5, .class_ 67), (0, u "java/lang/Object")] 63

/-- java/lang/CharSequence -/
def k4 : Class := { plain "java/lang/CharSequence" (some 0) with
  accessFlags := 1537
  interfaces := #[]
  cf := some (fileOf pool4 2 #[.nestMembers #[47, 59]] #[] 1537 66 #[] #[])
  fields := #[]
  methods := #[]
  instanceTypes := #[]
  staticTypes := #[]
  resolved := Array.replicate 131 none
  statics := none }

def pool5 : Array CpInfo := pool [(1, .class_ 2), (0, u "java/lang/constant/Constable"), (0, .class_ 4), (0, u "java/lang/Object")] 6

/-- java/lang/constant/Constable -/
def k5 : Class := { plain "java/lang/constant/Constable" (some 0) with
  accessFlags := 1537
  interfaces := #[]
  cf := some (fileOf pool5 1 #[] #[] 1537 3 #[] #[])
  fields := #[]
  methods := #[]
  instanceTypes := #[]
  staticTypes := #[]
  resolved := Array.replicate 11 none
  statics := none }

def pool6 : Array CpInfo := pool [(1, .class_ 2), (0, u "java/lang/constant/ConstantDesc"), (0, .class_ 4), (0, u "java/lang/Object")] 32

/-- java/lang/constant/ConstantDesc -/
def k6 : Class := { plain "java/lang/constant/ConstantDesc" (some 0) with
  accessFlags := 1537
  interfaces := #[]
  cf := some (fileOf pool6 1 #[] #[] 1537 3 #[] #[])
  fields := #[]
  methods := #[]
  instanceTypes := #[]
  staticTypes := #[]
  resolved := Array.replicate 37 none
  statics := none }

def pool7 : Array CpInfo := pool [(1, .methodref 2 3), (0, .class_ 4), (0, .nameAndType 5 6), (0, u "java/lang/Object"), (0, u "<init>"), (0, u "()V"), (0, .string 8), (0, u ""), (0, .fieldref 10 11), (0, .class_ 12), (0, .nameAndType 13 14), (0, u "java/lang/String"), (0, u "value"), (0, u "[B"), (0, .fieldref 10 16), (0, .nameAndType 17 18), (0, u "coder"), (0, u "B"), (2, u "hash"), (0, u "I"), (2, u "hashIsZero"), (0, u "Z"), (0, .methodref 10 28), (0, .nameAndType 5 29), (0, u "([CIILjava/lang/Void;)V"), (8, .fieldref 10 39), (0, .nameAndType 40 26), (0, u "COMPACT_STRINGS"), (1, .class_ 44), (1, u "java/lang/StringUTF16"), (0, u "compress"), (1, .methodref 42 48), (0, .nameAndType 49 50), (0, u "coderFromArrayLen"), (0, u "([BI)B"), (56, .class_ 109), (1, u "java/lang/StringLatin1"), (32, u "()Z"), (34, .methodref 42 178), (0, .nameAndType 45 179), (0, u "([CII)[B"), (154, u "()I"), (0, .methodref 10 336), (0, .nameAndType 17 337), (0, u "()B"), (25, u "([BI)C"), (27, u "(II)V"), (35, u "(I)C"), (64, .methodref 10 493), (0, .nameAndType 494 142), (0, u "isLatin1"), (0, .methodref 107 496), (0, .nameAndType 497 363), (0, u "charAt"), (0, .methodref 42 496), (2, u "checkIndex"), (5, u "length"), (67, .class_ 576), (0, u "java/lang/CharSequence"), (22, u "CASE_INSENSITIVE_ORDER"), (0, u "Ljava/util/Comparator;"), (409, u "([C)V"), (42, .fieldref 1054 1055), (0, .class_ 1056), (0, .nameAndType 1057 1058), (0, u "jdk/internal/util/Preconditions"), (0, u "SIOOBE_FORMATTER"), (0, u "Ljava/util/function/BiFunction;"), (0, .methodref 1054 1060), (0, .nameAndType 501 1061), (0, u "(IILjava/util/function/BiFunction;)I"), (39, u "serialPersistentFields"), (0, u "[Ljava/io/ObjectStreamField;"), (0, .class_ 1104), (0, u "java/lang/String$CaseInsensitiveComparator"), (1, .class_ 1107), (0, u "java/io/Serializable"), (0, .class_ 1109), (0, u "java/lang/Comparable"), (0, .class_ 1111), (0, u "java/lang/constant/Constable"), (0, .class_ 1113), (0, u "java/lang/constant/ConstantDesc"), (2, u "serialVersionUID"), (0, u "J"), (3, u "REPL"), (0, u "C"), (2, u "LATIN1"), (1, u "UTF16")] 323

def k7m0 : Method := { name := "<init>", desc := "()V", sig := { parameters := [], returnType := none }, accessFlags := 1, code := none }
def k7c1 : Code := { maxStack := 5, maxLocals := 2, code := jdk_42_method_3_code, exceptionTable := #[], attributes := #[] }
def k7m1 : Method := { name := "<init>", desc := "([C)V", sig := { parameters := [(.array .char)], returnType := none }, accessFlags := 1, code := some k7c1 }
def k7c2 : Code := { maxStack := 2, maxLocals := 1, code := jdk_42_method_54_code, exceptionTable := #[], attributes := #[] }
def k7m2 : Method := { name := "length", desc := "()I", sig := { parameters := [], returnType := some .int }, accessFlags := 1, code := some k7c2 }
def k7c3 : Code := { maxStack := 2, maxLocals := 2, code := jdk_42_method_56_code, exceptionTable := #[], attributes := #[] }
def k7m3 : Method := { name := "charAt", desc := "(I)C", sig := { parameters := [.int], returnType := some .char }, accessFlags := 1, code := some k7c3 }
def k7c4 : Code := { maxStack := 4, maxLocals := 6, code := jdk_42_method_149_code, exceptionTable := #[], attributes := #[] }
def k7m4 : Method := { name := "<init>", desc := "([CIILjava/lang/Void;)V", sig := { parameters := [(.array .char), .int, .int, (.object "java/lang/Void")], returnType := none }, accessFlags := 2, code := some k7c4 }
def k7c5 : Code := { maxStack := 1, maxLocals := 1, code := jdk_42_method_152_code, exceptionTable := #[], attributes := #[] }
def k7m5 : Method := { name := "coder", desc := "()B", sig := { parameters := [], returnType := some .byte }, accessFlags := 0, code := some k7c5 }
def k7c6 : Code := { maxStack := 1, maxLocals := 1, code := jdk_42_method_154_code, exceptionTable := #[], attributes := #[] }
def k7m6 : Method := { name := "isLatin1", desc := "()Z", sig := { parameters := [], returnType := some .boolean }, accessFlags := 0, code := some k7c6 }
def k7c7 : Code := { maxStack := 3, maxLocals := 2, code := jdk_42_method_155_code, exceptionTable := #[], attributes := #[] }
def k7m7 : Method := { name := "checkIndex", desc := "(II)V", sig := { parameters := [.int, .int], returnType := none }, accessFlags := 8, code := some k7c7 }
/-- java/lang/String -/
def k7 : Class := { plain "java/lang/String" (some 0) with
  accessFlags := 49
  interfaces := #[2, 3, 4, 5, 6]
  cf := some (fileOf pool7 10 #[.nestMembers #[1103]] #[{ accessFlags := 1, nameIndex := 5, descriptorIndex := 6, attributes := #[] }, { accessFlags := 1, nameIndex := 5, descriptorIndex := 1010, attributes := #[] }, { accessFlags := 1, nameIndex := 507, descriptorIndex := 334, attributes := #[] }, { accessFlags := 1, nameIndex := 497, descriptorIndex := 427, attributes := #[] }, { accessFlags := 2, nameIndex := 5, descriptorIndex := 29, attributes := #[] }, { accessFlags := 0, nameIndex := 17, descriptorIndex := 337, attributes := #[] }, { accessFlags := 0, nameIndex := 494, descriptorIndex := 142, attributes := #[] }, { accessFlags := 8, nameIndex := 501, descriptorIndex := 391, attributes := #[] }] 49 2 #[1106, 1108, 575, 1110, 1112] #[{ accessFlags := 18, nameIndex := 13, descriptorIndex := 14, attributes := #[] }, { accessFlags := 18, nameIndex := 17, descriptorIndex := 18, attributes := #[] }, { accessFlags := 2, nameIndex := 21, descriptorIndex := 22, attributes := #[] }, { accessFlags := 2, nameIndex := 25, descriptorIndex := 26, attributes := #[] }, { accessFlags := 26, nameIndex := 1116, descriptorIndex := 1117, attributes := #[] }, { accessFlags := 24, nameIndex := 40, descriptorIndex := 26, attributes := #[] }, { accessFlags := 26, nameIndex := 1101, descriptorIndex := 1102, attributes := #[] }, { accessFlags := 26, nameIndex := 1121, descriptorIndex := 1122, attributes := #[] }, { accessFlags := 25, nameIndex := 599, descriptorIndex := 600, attributes := #[] }, { accessFlags := 24, nameIndex := 1125, descriptorIndex := 18, attributes := #[] }, { accessFlags := 24, nameIndex := 1127, descriptorIndex := 18, attributes := #[] }])
  fields := #[{ name := "value", type := (.array .byte), accessFlags := 18, slot := 0, constantValue := 0 }, { name := "coder", type := .byte, accessFlags := 18, slot := 1, constantValue := 0 }, { name := "hash", type := .int, accessFlags := 2, slot := 2, constantValue := 0 }, { name := "hashIsZero", type := .boolean, accessFlags := 2, slot := 3, constantValue := 0 }, { name := "serialVersionUID", type := .long, accessFlags := 26, slot := 0, constantValue := 0 }, { name := "COMPACT_STRINGS", type := .boolean, accessFlags := 24, slot := 1, constantValue := 0 }, { name := "serialPersistentFields", type := (.array (.object "java/io/ObjectStreamField")), accessFlags := 26, slot := 2, constantValue := 0 }, { name := "REPL", type := .char, accessFlags := 26, slot := 3, constantValue := 0 }, { name := "CASE_INSENSITIVE_ORDER", type := (.object "java/util/Comparator"), accessFlags := 25, slot := 4, constantValue := 0 }, { name := "LATIN1", type := .byte, accessFlags := 24, slot := 5, constantValue := 0 }, { name := "UTF16", type := .byte, accessFlags := 24, slot := 6, constantValue := 0 }]
  methods := #[k7m0, k7m1, k7m2, k7m3, k7m4, k7m5, k7m6, k7m7]
  instanceTypes := #[(.array .byte), .byte, .int, .boolean]
  staticTypes := #[.long, .boolean, (.array (.object "java/io/ObjectStreamField")), .char, (.object "java/util/Comparator"), .byte, .byte]
  resolved := Array.replicate 1451 none
  statics := some 0 }

def pool8 : Array CpInfo := pool [(2, .class_ 4), (1, u "java/lang/Object"), (0, u "<init>"), (0, u "()V"), (1, .class_ 10), (1, u "java/lang/String"), (2, .methodref 8 14), (0, .nameAndType 15 16), (0, u "length"), (0, u "()I"), (5, .class_ 24), (1, u "com/example/headwater/headwater/core/XsNames"), (0, u "NAME_START"), (0, u "[I"), (6, u "NAME_REST"), (11, u "(Ljava/lang/String;)Z"), (7, .methodref 8 54), (0, .nameAndType 55 56), (0, u "charAt"), (0, u "(I)C"), (0, .methodref 58 59), (0, .class_ 60), (0, .nameAndType 61 62), (0, u "com/example/headwater/headwater/core/Diagnostic"), (0, u "breaksLine"), (0, u "(C)Z"), (14, u "INVALID"), (0, u "Ljava/lang/String;"), (7, u "isNamespaceName")] 22

def k8m0 : Method := { name := "<init>", desc := "()V", sig := { parameters := [], returnType := none }, accessFlags := 2, code := none }
def k8c1 : Code := { maxStack := 2, maxLocals := 4, code := prog_60_method_4_code, exceptionTable := #[], attributes := #[] }
def k8m1 : Method := { name := "isNamespaceName", desc := "(Ljava/lang/String;)Z", sig := { parameters := [(.object "java/lang/String")], returnType := some .boolean }, accessFlags := 8, code := some k8c1 }
/-- com/example/headwater/headwater/core/XsNames -/
def k8 : Class := { plain "com/example/headwater/headwater/core/XsNames" (some 0) with
  accessFlags := 48
  interfaces := #[]
  cf := some (fileOf pool8 22 #[] #[{ accessFlags := 2, nameIndex := 5, descriptorIndex := 6, attributes := #[] }, { accessFlags := 8, nameIndex := 86, descriptorIndex := 45, attributes := #[] }] 48 2 #[] #[{ accessFlags := 24, nameIndex := 77, descriptorIndex := 78, attributes := #[] }, { accessFlags := 26, nameIndex := 25, descriptorIndex := 26, attributes := #[] }, { accessFlags := 26, nameIndex := 33, descriptorIndex := 26, attributes := #[] }])
  fields := #[{ name := "INVALID", type := (.object "java/lang/String"), accessFlags := 24, slot := 0, constantValue := 0 }, { name := "NAME_START", type := (.array .int), accessFlags := 26, slot := 1, constantValue := 0 }, { name := "NAME_REST", type := (.array .int), accessFlags := 26, slot := 2, constantValue := 0 }]
  methods := #[k8m0, k8m1]
  instanceTypes := #[]
  staticTypes := #[(.object "java/lang/String"), (.array .int), (.array .int)]
  resolved := Array.replicate 109 none
  statics := none }

def pool9 : Array CpInfo := pool [(3, .class_ 4), (0, u "java/lang/String"), (1, .class_ 8), (1, u "java/lang/Object"), (0, u "<init>"), (0, u "()V"), (0, .methodref 12 13), (0, .class_ 14), (0, .nameAndType 15 16), (0, u "java/lang/StringUTF16"), (0, u "newBytesLength"), (0, u "(I)I"), (3, .integer 1073741823), (23, .fieldref 12 45), (0, .nameAndType 46 47), (0, u "$assertionsDisabled"), (0, u "Z"), (0, .methodref 12 49), (0, .nameAndType 50 51), (0, u "length"), (0, u "([B)I"), (7, .fieldref 12 60), (0, .nameAndType 61 62), (0, u "HI_BYTE_SHIFT"), (0, u "I"), (0, .fieldref 12 64), (0, .nameAndType 65 62), (0, u "LO_BYTE_SHIFT"), (1, .methodref 12 68), (0, .nameAndType 69 70), (0, u "checkIndex"), (0, u "(I[B)V"), (0, .methodref 12 72), (0, .nameAndType 73 74), (0, u "getChar"), (0, u "([BI)C"), (32, .methodref 12 108), (0, .nameAndType 109 110), (0, u "newBytesFor"), (0, u "(I)[B"), (0, .methodref 12 112), (0, .nameAndType 113 114), (0, u "putChar"), (0, u "([BII)V"), (0, .methodref 12 116), (0, .nameAndType 117 118), (0, u "compress"), (0, u "([CI[BII)I"), (0, .methodref 12 120), (0, .nameAndType 121 122), (0, u "toBytes"), (0, u "([CII)[B"), (138, u "coderFromArrayLen"), (0, u "([BI)B"), (106, .class_ 371), (1, u "java/lang/StringUTF16$LinesSpliterator"), (20, u "charAt"), (21, .methodref 3 415), (0, .nameAndType 69 416), (0, u "(II)V"), (13, u "MAX_LENGTH"), (196, .class_ 628), (0, u "java/lang/StringUTF16$CodePointsSpliterator"), (0, .class_ 630), (0, u "java/lang/StringUTF16$CharsSpliterator")] 4

def k9m0 : Method := { name := "<init>", desc := "()V", sig := { parameters := [], returnType := none }, accessFlags := 0, code := none }
def k9c1 : Code := { maxStack := 1, maxLocals := 1, code := jdk_52_method_2_code, exceptionTable := #[], attributes := #[] }
def k9m1 : Method := { name := "newBytesFor", desc := "(I)[B", sig := { parameters := [.int], returnType := some (.array .byte) }, accessFlags := 9, code := some k9c1 }
def k9c2 : Code := { maxStack := 4, maxLocals := 1, code := jdk_52_method_3_code, exceptionTable := #[], attributes := #[] }
def k9m2 : Method := { name := "newBytesLength", desc := "(I)I", sig := { parameters := [.int], returnType := some .int }, accessFlags := 9, code := some k9c2 }
def k9c3 : Code := { maxStack := 4, maxLocals := 3, code := jdk_52_method_4_code, exceptionTable := #[], attributes := #[] }
def k9m3 : Method := { name := "putChar", desc := "([BII)V", sig := { parameters := [(.array .byte), .int, .int], returnType := none }, accessFlags := 8, code := some k9c3 }
def k9c4 : Code := { maxStack := 3, maxLocals := 2, code := jdk_52_method_5_code, exceptionTable := #[], attributes := #[] }
def k9m4 : Method := { name := "getChar", desc := "([BI)C", sig := { parameters := [(.array .byte), .int], returnType := some .char }, accessFlags := 8, code := some k9c4 }
def k9c5 : Code := { maxStack := 2, maxLocals := 1, code := jdk_52_method_6_code, exceptionTable := #[], attributes := #[] }
def k9m5 : Method := { name := "length", desc := "([B)I", sig := { parameters := [(.array .byte)], returnType := some .int }, accessFlags := 9, code := some k9c5 }
def k9c6 : Code := { maxStack := 4, maxLocals := 5, code := jdk_52_method_14_code, exceptionTable := #[], attributes := #[] }
def k9m6 : Method := { name := "toBytes", desc := "([CII)[B", sig := { parameters := [(.array .char), .int, .int], returnType := some (.array .byte) }, accessFlags := 9, code := some k9c6 }
def k9c7 : Code := { maxStack := 2, maxLocals := 2, code := jdk_52_method_15_code, exceptionTable := #[], attributes := #[] }
def k9m7 : Method := { name := "coderFromArrayLen", desc := "([BI)B", sig := { parameters := [(.array .byte), .int], returnType := some .byte }, accessFlags := 8, code := some k9c7 }
def k9c8 : Code := { maxStack := 5, maxLocals := 6, code := jdk_52_method_16_code, exceptionTable := #[], attributes := #[] }
def k9m8 : Method := { name := "compress", desc := "([CII)[B", sig := { parameters := [(.array .char), .int, .int], returnType := some (.array .byte) }, accessFlags := 9, code := some k9c8 }
def k9c9 : Code := { maxStack := 3, maxLocals := 7, code := jdk_52_method_21_code, exceptionTable := #[], attributes := #[] }
def k9m9 : Method := { name := "compress", desc := "([CI[BII)I", sig := { parameters := [(.array .char), .int, (.array .byte), .int, .int], returnType := some .int }, accessFlags := 9, code := some k9c9 }
def k9c10 : Code := { maxStack := 2, maxLocals := 2, code := jdk_52_method_83_code, exceptionTable := #[], attributes := #[] }
def k9m10 : Method := { name := "charAt", desc := "([BI)C", sig := { parameters := [(.array .byte), .int], returnType := some .char }, accessFlags := 9, code := some k9c10 }
def k9c11 : Code := { maxStack := 2, maxLocals := 2, code := jdk_52_method_91_code, exceptionTable := #[], attributes := #[] }
def k9m11 : Method := { name := "checkIndex", desc := "(I[B)V", sig := { parameters := [.int, (.array .byte)], returnType := none }, accessFlags := 9, code := some k9c11 }
/-- java/lang/StringUTF16 -/
def k9 : Class := { plain "java/lang/StringUTF16" (some 0) with
  accessFlags := 48
  interfaces := #[]
  cf := some (fileOf pool9 12 #[.nestMembers #[627, 629, 369]] #[{ accessFlags := 0, nameIndex := 9, descriptorIndex := 10, attributes := #[] }, { accessFlags := 9, nameIndex := 109, descriptorIndex := 110, attributes := #[] }, { accessFlags := 9, nameIndex := 15, descriptorIndex := 16, attributes := #[] }, { accessFlags := 8, nameIndex := 113, descriptorIndex := 114, attributes := #[] }, { accessFlags := 8, nameIndex := 73, descriptorIndex := 74, attributes := #[] }, { accessFlags := 9, nameIndex := 50, descriptorIndex := 51, attributes := #[] }, { accessFlags := 9, nameIndex := 121, descriptorIndex := 122, attributes := #[] }, { accessFlags := 8, nameIndex := 261, descriptorIndex := 262, attributes := #[] }, { accessFlags := 9, nameIndex := 117, descriptorIndex := 122, attributes := #[] }, { accessFlags := 9, nameIndex := 117, descriptorIndex := 118, attributes := #[] }, { accessFlags := 9, nameIndex := 392, descriptorIndex := 74, attributes := #[] }, { accessFlags := 9, nameIndex := 69, descriptorIndex := 70, attributes := #[] }] 48 6 #[] #[{ accessFlags := 26, nameIndex := 61, descriptorIndex := 62, attributes := #[] }, { accessFlags := 26, nameIndex := 65, descriptorIndex := 62, attributes := #[] }, { accessFlags := 24, nameIndex := 430, descriptorIndex := 62, attributes := #[] }, { accessFlags := 4120, nameIndex := 46, descriptorIndex := 47, attributes := #[] }])
  fields := #[{ name := "HI_BYTE_SHIFT", type := .int, accessFlags := 26, slot := 0, constantValue := 0 }, { name := "LO_BYTE_SHIFT", type := .int, accessFlags := 26, slot := 1, constantValue := 0 }, { name := "MAX_LENGTH", type := .int, accessFlags := 24, slot := 2, constantValue := 0 }, { name := "$assertionsDisabled", type := .boolean, accessFlags := 4120, slot := 3, constantValue := 0 }]
  methods := #[k9m0, k9m1, k9m2, k9m3, k9m4, k9m5, k9m6, k9m7, k9m8, k9m9, k9m10, k9m11]
  instanceTypes := #[]
  staticTypes := #[.int, .int, .int, .boolean]
  resolved := Array.replicate 635 none
  statics := some 1 }

def pool10 : Array CpInfo := pool [(1, .class_ 2), (0, u "java/lang/String"), (1, .class_ 6), (1, u "java/lang/Object"), (0, u "<init>"), (0, u "()V"), (0, .methodref 1 10), (0, .nameAndType 11 12), (0, u "checkIndex"), (0, u "(II)V"), (1, .class_ 16), (1, u "java/lang/StringLatin1"), (36, u "([BI)C"), (67, u "$assertionsDisabled"), (0, u "Z"), (98, .class_ 223), (1, u "java/lang/StringLatin1$LinesSpliterator"), (28, u "charAt"), (137, .class_ 391), (0, u "java/lang/StringLatin1$CharsSpliterator")] 3

def k10m0 : Method := { name := "<init>", desc := "()V", sig := { parameters := [], returnType := none }, accessFlags := 0, code := none }
def k10c1 : Code := { maxStack := 2, maxLocals := 2, code := jdk_43_method_2_code, exceptionTable := #[], attributes := #[] }
def k10m1 : Method := { name := "charAt", desc := "([BI)C", sig := { parameters := [(.array .byte), .int], returnType := some .char }, accessFlags := 9, code := some k10c1 }
/-- java/lang/StringLatin1 -/
def k10 : Class := { plain "java/lang/StringLatin1" (some 0) with
  accessFlags := 48
  interfaces := #[]
  cf := some (fileOf pool10 14 #[.nestMembers #[390, 221]] #[{ accessFlags := 0, nameIndex := 7, descriptorIndex := 8, attributes := #[] }, { accessFlags := 9, nameIndex := 252, descriptorIndex := 53, attributes := #[] }] 48 4 #[] #[{ accessFlags := 4120, nameIndex := 121, descriptorIndex := 122, attributes := #[] }])
  fields := #[{ name := "$assertionsDisabled", type := .boolean, accessFlags := 4120, slot := 0, constantValue := 0 }]
  methods := #[k10m0, k10m1]
  instanceTypes := #[]
  staticTypes := #[.boolean]
  resolved := Array.replicate 395 none
  statics := none }

def pool11 : Array CpInfo := pool [(2, .class_ 4), (1, u "java/lang/Object"), (0, u "<init>"), (0, u "()V"), (17, .class_ 26), (1, u "jdk/internal/util/Preconditions"), (6, u "checkIndex"), (21, .class_ 56), (0, u "jdk/internal/util/Preconditions$4"), (57, .class_ 115), (0, u "jdk/internal/util/Preconditions$1"), (7, u "SIOOBE_FORMATTER"), (0, u "Ljava/util/function/BiFunction;"), (0, .class_ 126), (0, u "jdk/internal/util/Preconditions$2"), (3, u "AIOOBE_FORMATTER"), (0, .class_ 132), (0, u "jdk/internal/util/Preconditions$3"), (3, u "IOOBE_FORMATTER"), (41, u "(IILjava/util/function/BiFunction;)I")] 15

def k11m0 : Method := { name := "<init>", desc := "()V", sig := { parameters := [], returnType := none }, accessFlags := 1, code := none }
def k11c1 : Code := { maxStack := 3, maxLocals := 3, code := jdk_41_method_11_code, exceptionTable := #[], attributes := #[] }
def k11m1 : Method := { name := "checkIndex", desc := "(IILjava/util/function/BiFunction;)I", sig := { parameters := [.int, .int, (.object "java/util/function/BiFunction")], returnType := some .int }, accessFlags := 9, code := some k11c1 }
/-- jdk/internal/util/Preconditions -/
def k11 : Class := { plain "jdk/internal/util/Preconditions" (some 0) with
  accessFlags := 33
  interfaces := #[]
  cf := some (fileOf pool11 24 #[.nestMembers #[55, 131, 125, 114]] #[{ accessFlags := 1, nameIndex := 5, descriptorIndex := 6, attributes := #[] }, { accessFlags := 9, nameIndex := 33, descriptorIndex := 178, attributes := #[] }] 33 2 #[] #[{ accessFlags := 25, nameIndex := 123, descriptorIndex := 124, attributes := #[] }, { accessFlags := 25, nameIndex := 130, descriptorIndex := 124, attributes := #[] }, { accessFlags := 25, nameIndex := 136, descriptorIndex := 124, attributes := #[] }])
  fields := #[{ name := "SIOOBE_FORMATTER", type := (.object "java/util/function/BiFunction"), accessFlags := 25, slot := 0, constantValue := 0 }, { name := "AIOOBE_FORMATTER", type := (.object "java/util/function/BiFunction"), accessFlags := 25, slot := 1, constantValue := 0 }, { name := "IOOBE_FORMATTER", type := (.object "java/util/function/BiFunction"), accessFlags := 25, slot := 2, constantValue := 0 }]
  methods := #[k11m0, k11m1]
  instanceTypes := #[]
  staticTypes := #[(.object "java/util/function/BiFunction"), (.object "java/util/function/BiFunction"), (.object "java/util/function/BiFunction")]
  resolved := Array.replicate 194 none
  statics := some 2 }

def pool12 : Array CpInfo := pool [(2, .class_ 4), (1, u "java/lang/Object"), (0, u "<init>"), (0, u "()V"), (0, .class_ 8), (0, u "java/lang/Record")] 13

def k12m0 : Method := { name := "<init>", desc := "()V", sig := { parameters := [], returnType := none }, accessFlags := 4, code := none }
/-- java/lang/Record -/
def k12 : Class := { plain "java/lang/Record" (some 0) with
  accessFlags := 1057
  interfaces := #[]
  cf := some (fileOf pool12 7 #[] #[{ accessFlags := 4, nameIndex := 5, descriptorIndex := 6, attributes := #[] }] 1057 2 #[] #[])
  fields := #[]
  methods := #[k12m0]
  instanceTypes := #[]
  staticTypes := #[]
  resolved := Array.replicate 22 none
  statics := none }

def pool13 : Array CpInfo := pool [(2, .class_ 4), (1, u "java/lang/Record"), (3, .class_ 10), (1, u "com/example/headwater/headwater/core/Diagnostic"), (4, u "file"), (0, u "Ljava/nio/file/Path;"), (2, u "line"), (0, u "I"), (2, u "severity"), (0, u "Lcom/example/headwater/headwater/core/Diagnostic$Severity;"), (2, u "code"), (0, u "Ljava/lang/String;"), (2, u "text"), (1, .class_ 35), (1, u "com/example/headwater/headwater/core/Diagnostic$Severity"), (66, u "breaksLine"), (0, u "(C)Z"), (21, u "CANNOT_READ")] 47

def k13c0 : Code := { maxStack := 2, maxLocals := 1, code := prog_16_method_6_code, exceptionTable := #[], attributes := #[] }
def k13m0 : Method := { name := "breaksLine", desc := "(C)Z", sig := { parameters := [.char], returnType := some .boolean }, accessFlags := 8, code := some k13c0 }
/-- com/example/headwater/headwater/core/Diagnostic -/
def k13 : Class := { plain "com/example/headwater/headwater/core/Diagnostic" (some 12) with
  accessFlags := 49
  interfaces := #[]
  cf := some (fileOf pool13 8 #[.nestMembers #[33]] #[{ accessFlags := 8, nameIndex := 102, descriptorIndex := 103, attributes := #[] }] 49 2 #[] #[{ accessFlags := 18, nameIndex := 15, descriptorIndex := 16, attributes := #[] }, { accessFlags := 18, nameIndex := 19, descriptorIndex := 20, attributes := #[] }, { accessFlags := 18, nameIndex := 23, descriptorIndex := 24, attributes := #[] }, { accessFlags := 18, nameIndex := 27, descriptorIndex := 28, attributes := #[] }, { accessFlags := 18, nameIndex := 31, descriptorIndex := 28, attributes := #[] }, { accessFlags := 25, nameIndex := 125, descriptorIndex := 28, attributes := #[] }])
  fields := #[{ name := "file", type := (.object "java/nio/file/Path"), accessFlags := 18, slot := 0, constantValue := 0 }, { name := "line", type := .int, accessFlags := 18, slot := 1, constantValue := 0 }, { name := "severity", type := (.object "com/example/headwater/headwater/core/Diagnostic$Severity"), accessFlags := 18, slot := 2, constantValue := 0 }, { name := "code", type := (.object "java/lang/String"), accessFlags := 18, slot := 3, constantValue := 0 }, { name := "text", type := (.object "java/lang/String"), accessFlags := 18, slot := 4, constantValue := 0 }, { name := "CANNOT_READ", type := (.object "java/lang/String"), accessFlags := 25, slot := 0, constantValue := 0 }]
  methods := #[k13m0]
  instanceTypes := #[(.object "java/nio/file/Path"), .int, (.object "com/example/headwater/headwater/core/Diagnostic$Severity"), (.object "java/lang/String"), (.object "java/lang/String")]
  staticTypes := #[(.object "java/lang/String")]
  resolved := Array.replicate 173 none
  statics := none }

def pool14 : Array CpInfo := pool [(9, u "<init>"), (6, .class_ 18), (1, u "java/lang/Object"), (0, u "()V"), (1, .class_ 23), (1, u "jdk/internal/util/ArraysSupport"), (0, u "LOG2_ARRAY_LONG_INDEX_SCALE"), (0, u "I"), (2, u "U"), (0, u "Ljdk/internal/misc/Unsafe;"), (8, u "BIG_ENDIAN"), (0, u "Z"), (8, u "LOG2_BYTE_BIT_SIZE"), (4, u "LOG2_ARRAY_INT_INDEX_SCALE"), (54, u "JLA"), (0, u "Ljdk/internal/access/JavaLangAccess;"), (11, u "LOG2_ARRAY_BOOLEAN_INDEX_SCALE"), (9, u "LOG2_ARRAY_BYTE_INDEX_SCALE"), (5, u "LOG2_ARRAY_CHAR_INDEX_SCALE"), (5, u "LOG2_ARRAY_SHORT_INDEX_SCALE"), (18, u "LOG2_ARRAY_FLOAT_INDEX_SCALE"), (24, u "LOG2_ARRAY_DOUBLE_INDEX_SCALE"), (89, u "T_BOOLEAN"), (2, u "T_CHAR"), (1, u "T_FLOAT"), (1, u "T_DOUBLE"), (1, u "T_BYTE"), (1, u "T_SHORT"), (1, u "T_INT"), (1, u "T_LONG"), (1, u "SOFT_MAX_ARRAY_LENGTH")] 83

def k14m0 : Method := { name := "<init>", desc := "()V", sig := { parameters := [], returnType := none }, accessFlags := 2, code := none }
/-- jdk/internal/util/ArraysSupport -/
def k14 : Class := { plain "jdk/internal/util/ArraysSupport" (some 0) with
  accessFlags := 33
  interfaces := #[]
  cf := some (fileOf pool14 21 #[] #[{ accessFlags := 2, nameIndex := 9, descriptorIndex := 19, attributes := #[] }] 33 16 #[] #[{ accessFlags := 24, nameIndex := 28, descriptorIndex := 29, attributes := #[] }, { accessFlags := 26, nameIndex := 38, descriptorIndex := 39, attributes := #[] }, { accessFlags := 25, nameIndex := 121, descriptorIndex := 25, attributes := #[] }, { accessFlags := 25, nameIndex := 131, descriptorIndex := 25, attributes := #[] }, { accessFlags := 25, nameIndex := 137, descriptorIndex := 25, attributes := #[] }, { accessFlags := 25, nameIndex := 143, descriptorIndex := 25, attributes := #[] }, { accessFlags := 25, nameIndex := 53, descriptorIndex := 25, attributes := #[] }, { accessFlags := 25, nameIndex := 24, descriptorIndex := 25, attributes := #[] }, { accessFlags := 25, nameIndex := 162, descriptorIndex := 25, attributes := #[] }, { accessFlags := 25, nameIndex := 187, descriptorIndex := 25, attributes := #[] }, { accessFlags := 26, nameIndex := 48, descriptorIndex := 25, attributes := #[] }, { accessFlags := 25, nameIndex := 277, descriptorIndex := 25, attributes := #[] }, { accessFlags := 25, nameIndex := 280, descriptorIndex := 25, attributes := #[] }, { accessFlags := 25, nameIndex := 282, descriptorIndex := 25, attributes := #[] }, { accessFlags := 25, nameIndex := 284, descriptorIndex := 25, attributes := #[] }, { accessFlags := 25, nameIndex := 286, descriptorIndex := 25, attributes := #[] }, { accessFlags := 25, nameIndex := 288, descriptorIndex := 25, attributes := #[] }, { accessFlags := 25, nameIndex := 290, descriptorIndex := 25, attributes := #[] }, { accessFlags := 25, nameIndex := 292, descriptorIndex := 25, attributes := #[] }, { accessFlags := 26, nameIndex := 108, descriptorIndex := 109, attributes := #[] }, { accessFlags := 25, nameIndex := 294, descriptorIndex := 25, attributes := #[] }])
  fields := #[{ name := "U", type := (.object "jdk/internal/misc/Unsafe"), accessFlags := 24, slot := 0, constantValue := 0 }, { name := "BIG_ENDIAN", type := .boolean, accessFlags := 26, slot := 1, constantValue := 0 }, { name := "LOG2_ARRAY_BOOLEAN_INDEX_SCALE", type := .int, accessFlags := 25, slot := 2, constantValue := 0 }, { name := "LOG2_ARRAY_BYTE_INDEX_SCALE", type := .int, accessFlags := 25, slot := 3, constantValue := 0 }, { name := "LOG2_ARRAY_CHAR_INDEX_SCALE", type := .int, accessFlags := 25, slot := 4, constantValue := 0 }, { name := "LOG2_ARRAY_SHORT_INDEX_SCALE", type := .int, accessFlags := 25, slot := 5, constantValue := 0 }, { name := "LOG2_ARRAY_INT_INDEX_SCALE", type := .int, accessFlags := 25, slot := 6, constantValue := 0 }, { name := "LOG2_ARRAY_LONG_INDEX_SCALE", type := .int, accessFlags := 25, slot := 7, constantValue := 0 }, { name := "LOG2_ARRAY_FLOAT_INDEX_SCALE", type := .int, accessFlags := 25, slot := 8, constantValue := 0 }, { name := "LOG2_ARRAY_DOUBLE_INDEX_SCALE", type := .int, accessFlags := 25, slot := 9, constantValue := 0 }, { name := "LOG2_BYTE_BIT_SIZE", type := .int, accessFlags := 26, slot := 10, constantValue := 0 }, { name := "T_BOOLEAN", type := .int, accessFlags := 25, slot := 11, constantValue := 0 }, { name := "T_CHAR", type := .int, accessFlags := 25, slot := 12, constantValue := 0 }, { name := "T_FLOAT", type := .int, accessFlags := 25, slot := 13, constantValue := 0 }, { name := "T_DOUBLE", type := .int, accessFlags := 25, slot := 14, constantValue := 0 }, { name := "T_BYTE", type := .int, accessFlags := 25, slot := 15, constantValue := 0 }, { name := "T_SHORT", type := .int, accessFlags := 25, slot := 16, constantValue := 0 }, { name := "T_INT", type := .int, accessFlags := 25, slot := 17, constantValue := 0 }, { name := "T_LONG", type := .int, accessFlags := 25, slot := 18, constantValue := 0 }, { name := "JLA", type := (.object "jdk/internal/access/JavaLangAccess"), accessFlags := 26, slot := 19, constantValue := 0 }, { name := "SOFT_MAX_ARRAY_LENGTH", type := .int, accessFlags := 25, slot := 20, constantValue := 0 }]
  methods := #[k14m0]
  instanceTypes := #[]
  staticTypes := #[(.object "jdk/internal/misc/Unsafe"), .boolean, .int, .int, .int, .int, .int, .int, .int, .int, .int, .int, .int, .int, .int, .int, .int, .int, .int, (.object "jdk/internal/access/JavaLangAccess"), .int]
  resolved := Array.replicate 378 none
  statics := none }

def pool15 : Array CpInfo := pool [(1, u "java/lang/Cloneable"), (0, .class_ 1), (0, u "java/lang/Object"), (0, .class_ 3)] 3

/-- java/lang/Cloneable -/
def k15 : Class := { plain "java/lang/Cloneable" (some 0) with
  accessFlags := 1537
  interfaces := #[]
  cf := some (fileOf pool15 2 #[] #[] 1537 4 #[] #[])
  fields := #[]
  methods := #[]
  instanceTypes := #[]
  staticTypes := #[]
  resolved := Array.replicate 8 none
  statics := none }

/-- the primitive byte -/
def k16 : Class := { plain "byte" none with kind := .primitive 'B', accessFlags := 0x411 }
/-- [B -/
def k17 : Class := { plain "[B" (some 0) with kind := .array 16 .byte, interfaces := #[15, 2], accessFlags := 1041 }

/-- the primitive char -/
def k18 : Class := { plain "char" none with kind := .primitive 'C', accessFlags := 0x411 }
/-- [C -/
def k19 : Class := { plain "[C" (some 0) with kind := .array 18 .char, interfaces := #[15, 2], accessFlags := 1041 }

/-- the primitive int -/
def k20 : Class := { plain "int" none with kind := .primitive 'I', accessFlags := 0x411 }
/-- [I -/
def k21 : Class := { plain "[I" (some 0) with kind := .array 20 .int, interfaces := #[15, 2], accessFlags := 1041 }

def heap : Heap := #[{ cls := 7, slots := #[.long 0, .int 1, .null, .int 0, .null, .int 0, .int 0], vm := .statics 7 },
  { cls := 9, slots := #[.int 0, .int 8, .int 0, .int 1], vm := .statics 9 },
  { cls := 11, slots := #[.null, .null, .null], vm := .statics 11 }]
def classes : Array Class := #[k0, k1, k2, k3, k4, k5, k6, k7, k8, k9, k10, k11, k12, k13, k14, k15, k16, k17, k18, k19, k20, k21]
def interned : List (Array UInt16 × Addr) := []
def slotsUsed : Nat := 14
def theMethod : MethodId := ⟨1, 1⟩
def args0 : Array Value := #[.int 2, .int 65, .int 300, .int 67, .int 68]
def aboutOver (below : List Frame) : State where
  vm := { classes := classes, interned := interned.toArray }
  heap := heap
  slotsUsed := slotsUsed
  threads := #[{ frames := .invoking theMethod args0 :: below }]
def below0 : List Frame := [.native { method := ⟨0, 0⟩, args := #[] }]
def about1 : State := aboutOver below0
def p0 : Program := .bare "" "" ""
def e0 : Env := launch0.env 0 0 0
theorem w_frames : about1.frames = Frame.invoking theMethod args0 :: below0 := rfl
set_option maxRecDepth 65536 in
theorem w_args : argsFit about1.vm theMethod args0 = true := by decide +kernel
set_option maxRecDepth 65536 in
theorem w_heap : heapFits about1 = true := by decide +kernel
set_option maxRecDepth 65536 in
theorem w_runnable : about1.curStatus? = some .runnable := by decide +kernel
set_option maxRecDepth 65536 in
theorem w_alone : about1.alone = true := by decide +kernel
set_option maxRecDepth 65536 in
theorem w_named : about1.methodNamed? x = some theMethod := by decide +kernel
set_option maxRecDepth 65536 in
theorem w_hears : about1.hears theMethod below0 = true := by decide +kernel
set_option maxRecDepth 65536 in
theorem w_ripe : about1.ripe theMethod args0 below0 = true := by decide +kernel
theorem w_running : about1.status = .running := rfl
set_option maxRecDepth 65536 in
theorem w_room : about1.hasRoom e0.platform room_1 = true :=
  launch0.hasRoom_least _ room_1 (by decide +kernel) (by decide +kernel) (by decide +kernel) (by decide +kernel) (by decide +kernel) (by decide +kernel)
theorem allAtoms_all (ts : List Jvm.Cond) (a : Array Jvm.Value) (st : Jvm.State) : (allAtoms ts).before a st = ts.all (fun c => c.before a st) := by
  induction ts with
  | nil => rfl
  | cons c t ih =>
    show (Jvm.Cond.and c (allAtoms t)).before a st = _
    rw [Jvm.Cond.before_and, ih, List.all_cons]
def words1 : List Jvm.Cond := Jvm.Cond.code x code maxLocals ret :: tables_1
/-- a 'code' word, met by the world's own term for the bytes: nothing is compared byte by byte -/
theorem code_word {y : MethodName} {bytes : ByteArray} {mx : Nat} {rt : Option FieldType} {a : Array Value} {s : State} {m : MethodId} {meth : Method} {c : Code} (h1 : s.methodNamed? y = some m) (h2 : s.vm.method? m = some meth) (h3 : meth.code = some c) (h4 : c.code = bytes)
    (h5 : (c.maxLocals == mx && c.exceptionTable.isEmpty && decide (c.maxStack ≤ mostOperands) && decide (meth.sig.returnType = rt) && !meth.locks && decide (parseMethodDescriptor y.desc = some meth.sig)) = true) : (Jvm.Cond.code y bytes mx rt).before a s = true := by
  simp only [Bool.and_eq_true, beq_iff_eq, Bool.not_eq_true', decide_eq_true_eq] at h5
  obtain ⟨⟨⟨⟨⟨g1, g2⟩, g3⟩, g4⟩, g5⟩, g6⟩ := h5
  simp [Cond.before, Cond.holds, Cond.value, h1, h2, h3, h4, g1, g2, g3, g4, g5, g6]
def isCode : Jvm.Cond → Bool
  | .code _ _ _ _ => true
  | _ => false
theorem all_split {L : List Jvm.Cond} {P : Jvm.Cond → Bool} (h1 : L.all (fun c => isCode c || P c) = true) (h2 : ∀ c ∈ L.filter isCode, P c = true) : L.all P = true := by
  refine List.all_eq_true.mpr fun c hc => ?_
  have h := List.all_eq_true.mp h1 c hc
  rcases Bool.eq_false_or_eq_true (isCode c) with hi | hi
  · exact h2 c (List.mem_filter.mpr ⟨hc, hi⟩)
  · simpa [hi] using h
set_option maxRecDepth 65536 in
theorem w_c0 : (Jvm.Cond.code x code maxLocals ret).before args0 about1 = true := code_word (m := ⟨1, 1⟩) (meth := k1m1) (c := k1c1) (by decide +kernel) rfl rfl rfl (by decide +kernel)
set_option maxRecDepth 65536 in
theorem w_c1 : (Jvm.Cond.code ({ cls := "java/lang/String", name := "<init>", desc := "([C)V" } : Jvm.MethodName) jdk_42_method_3_code (2 : Nat) (Option.none : Option Jvm.ClassFile.FieldType)).before args0 about1 = true := code_word (m := ⟨7, 1⟩) (meth := k7m1) (c := k7c1) (by decide +kernel) rfl rfl rfl (by decide +kernel)
set_option maxRecDepth 65536 in
theorem w_c2 : (Jvm.Cond.code ({ cls := "java/lang/String", name := "<init>", desc := "([CIILjava/lang/Void;)V" } : Jvm.MethodName) jdk_42_method_149_code (6 : Nat) (Option.none : Option Jvm.ClassFile.FieldType)).before args0 about1 = true := code_word (m := ⟨7, 4⟩) (meth := k7m4) (c := k7c4) (by decide +kernel) rfl rfl rfl (by decide +kernel)
set_option maxRecDepth 65536 in
theorem w_c3 : (Jvm.Cond.code ({ cls := "java/lang/Object", name := "<init>", desc := "()V" } : Jvm.MethodName) object_method_1_code (1 : Nat) (Option.none : Option Jvm.ClassFile.FieldType)).before args0 about1 = true := code_word (m := ⟨0, 0⟩) (meth := k0m0) (c := k0c0) (by decide +kernel) rfl rfl rfl (by decide +kernel)
set_option maxRecDepth 65536 in
theorem w_c4 : (Jvm.Cond.code ({ cls := "com/example/headwater/headwater/core/XsNames", name := "isNamespaceName", desc := "(Ljava/lang/String;)Z" } : Jvm.MethodName) prog_60_method_4_code (4 : Nat) (Option.some Jvm.ClassFile.FieldType.boolean)).before args0 about1 = true := code_word (m := ⟨8, 1⟩) (meth := k8m1) (c := k8c1) (by decide +kernel) rfl rfl rfl (by decide +kernel)
set_option maxRecDepth 65536 in
theorem w_c5 : (Jvm.Cond.code ({ cls := "java/lang/String", name := "length", desc := "()I" } : Jvm.MethodName) jdk_42_method_54_code (1 : Nat) (Option.some Jvm.ClassFile.FieldType.int)).before args0 about1 = true := code_word (m := ⟨7, 2⟩) (meth := k7m2) (c := k7c2) (by decide +kernel) rfl rfl rfl (by decide +kernel)
set_option maxRecDepth 65536 in
theorem w_c6 : (Jvm.Cond.code ({ cls := "java/lang/String", name := "coder", desc := "()B" } : Jvm.MethodName) jdk_42_method_152_code (1 : Nat) (Option.some Jvm.ClassFile.FieldType.byte)).before args0 about1 = true := code_word (m := ⟨7, 5⟩) (meth := k7m5) (c := k7c5) (by decide +kernel) rfl rfl rfl (by decide +kernel)
set_option maxRecDepth 65536 in
theorem w_c7 : (Jvm.Cond.code ({ cls := "java/lang/StringUTF16", name := "compress", desc := "([CII)[B" } : Jvm.MethodName) jdk_52_method_16_code (6 : Nat) (Option.some (Jvm.ClassFile.FieldType.array Jvm.ClassFile.FieldType.byte))).before args0 about1 = true := code_word (m := ⟨9, 8⟩) (meth := k9m8) (c := k9c8) (by decide +kernel) rfl rfl rfl (by decide +kernel)
set_option maxRecDepth 65536 in
theorem w_c8 : (Jvm.Cond.code ({ cls := "java/lang/StringUTF16", name := "compress", desc := "([CI[BII)I" } : Jvm.MethodName) jdk_52_method_21_code (7 : Nat) (Option.some Jvm.ClassFile.FieldType.int)).before args0 about1 = true := code_word (m := ⟨9, 9⟩) (meth := k9m9) (c := k9c9) (by decide +kernel) rfl rfl rfl (by decide +kernel)
set_option maxRecDepth 65536 in
theorem w_c9 : (Jvm.Cond.code ({ cls := "java/lang/StringUTF16", name := "coderFromArrayLen", desc := "([BI)B" } : Jvm.MethodName) jdk_52_method_15_code (2 : Nat) (Option.some Jvm.ClassFile.FieldType.byte)).before args0 about1 = true := code_word (m := ⟨9, 7⟩) (meth := k9m7) (c := k9c7) (by decide +kernel) rfl rfl rfl (by decide +kernel)
set_option maxRecDepth 65536 in
theorem w_c10 : (Jvm.Cond.code ({ cls := "com/example/headwater/headwater/core/XsNamesIsNamespaceNamePinLaw", name := "allowed", desc := "(C)Z" } : Jvm.MethodName) method_3_code (2 : Nat) (Option.some Jvm.ClassFile.FieldType.boolean)).before args0 about1 = true := code_word (m := ⟨1, 2⟩) (meth := k1m2) (c := k1c2) (by decide +kernel) rfl rfl rfl (by decide +kernel)
set_option maxRecDepth 65536 in
theorem w_c11 : (Jvm.Cond.code ({ cls := "java/lang/String", name := "charAt", desc := "(I)C" } : Jvm.MethodName) jdk_42_method_56_code (2 : Nat) (Option.some Jvm.ClassFile.FieldType.char)).before args0 about1 = true := code_word (m := ⟨7, 3⟩) (meth := k7m3) (c := k7c3) (by decide +kernel) rfl rfl rfl (by decide +kernel)
set_option maxRecDepth 65536 in
theorem w_c12 : (Jvm.Cond.code ({ cls := "java/lang/String", name := "isLatin1", desc := "()Z" } : Jvm.MethodName) jdk_42_method_154_code (1 : Nat) (Option.some Jvm.ClassFile.FieldType.boolean)).before args0 about1 = true := code_word (m := ⟨7, 6⟩) (meth := k7m6) (c := k7c6) (by decide +kernel) rfl rfl rfl (by decide +kernel)
set_option maxRecDepth 65536 in
theorem w_c13 : (Jvm.Cond.code ({ cls := "java/lang/StringLatin1", name := "charAt", desc := "([BI)C" } : Jvm.MethodName) jdk_43_method_2_code (2 : Nat) (Option.some Jvm.ClassFile.FieldType.char)).before args0 about1 = true := code_word (m := ⟨10, 1⟩) (meth := k10m1) (c := k10c1) (by decide +kernel) rfl rfl rfl (by decide +kernel)
set_option maxRecDepth 65536 in
theorem w_c14 : (Jvm.Cond.code ({ cls := "java/lang/String", name := "checkIndex", desc := "(II)V" } : Jvm.MethodName) jdk_42_method_155_code (2 : Nat) (Option.none : Option Jvm.ClassFile.FieldType)).before args0 about1 = true := code_word (m := ⟨7, 7⟩) (meth := k7m7) (c := k7c7) (by decide +kernel) rfl rfl rfl (by decide +kernel)
set_option maxRecDepth 65536 in
theorem w_c15 : (Jvm.Cond.code ({ cls := "jdk/internal/util/Preconditions", name := "checkIndex", desc := "(IILjava/util/function/BiFunction;)I" } : Jvm.MethodName) jdk_41_method_11_code (3 : Nat) (Option.some Jvm.ClassFile.FieldType.int)).before args0 about1 = true := code_word (m := ⟨11, 1⟩) (meth := k11m1) (c := k11c1) (by decide +kernel) rfl rfl rfl (by decide +kernel)
set_option maxRecDepth 65536 in
theorem w_c16 : (Jvm.Cond.code ({ cls := "com/example/headwater/headwater/core/Diagnostic", name := "breaksLine", desc := "(C)Z" } : Jvm.MethodName) prog_16_method_6_code (1 : Nat) (Option.some Jvm.ClassFile.FieldType.boolean)).before args0 about1 = true := code_word (m := ⟨13, 0⟩) (meth := k13m0) (c := k13c0) (by decide +kernel) rfl rfl rfl (by decide +kernel)
set_option maxRecDepth 65536 in
theorem w_c17 : (Jvm.Cond.code ({ cls := "java/lang/StringUTF16", name := "toBytes", desc := "([CII)[B" } : Jvm.MethodName) jdk_52_method_14_code (5 : Nat) (Option.some (Jvm.ClassFile.FieldType.array Jvm.ClassFile.FieldType.byte))).before args0 about1 = true := code_word (m := ⟨9, 6⟩) (meth := k9m6) (c := k9c6) (by decide +kernel) rfl rfl rfl (by decide +kernel)
set_option maxRecDepth 65536 in
theorem w_c18 : (Jvm.Cond.code ({ cls := "java/lang/StringUTF16", name := "newBytesFor", desc := "(I)[B" } : Jvm.MethodName) jdk_52_method_2_code (1 : Nat) (Option.some (Jvm.ClassFile.FieldType.array Jvm.ClassFile.FieldType.byte))).before args0 about1 = true := code_word (m := ⟨9, 1⟩) (meth := k9m1) (c := k9c1) (by decide +kernel) rfl rfl rfl (by decide +kernel)
set_option maxRecDepth 65536 in
theorem w_c19 : (Jvm.Cond.code ({ cls := "java/lang/StringUTF16", name := "newBytesLength", desc := "(I)I" } : Jvm.MethodName) jdk_52_method_3_code (1 : Nat) (Option.some Jvm.ClassFile.FieldType.int)).before args0 about1 = true := code_word (m := ⟨9, 2⟩) (meth := k9m2) (c := k9c2) (by decide +kernel) rfl rfl rfl (by decide +kernel)
set_option maxRecDepth 65536 in
theorem w_c20 : (Jvm.Cond.code ({ cls := "java/lang/StringUTF16", name := "putChar", desc := "([BII)V" } : Jvm.MethodName) jdk_52_method_4_code (3 : Nat) (Option.none : Option Jvm.ClassFile.FieldType)).before args0 about1 = true := code_word (m := ⟨9, 3⟩) (meth := k9m3) (c := k9c3) (by decide +kernel) rfl rfl rfl (by decide +kernel)
set_option maxRecDepth 65536 in
theorem w_c21 : (Jvm.Cond.code ({ cls := "java/lang/StringUTF16", name := "getChar", desc := "([BI)C" } : Jvm.MethodName) jdk_52_method_5_code (2 : Nat) (Option.some Jvm.ClassFile.FieldType.char)).before args0 about1 = true := code_word (m := ⟨9, 4⟩) (meth := k9m4) (c := k9c4) (by decide +kernel) rfl rfl rfl (by decide +kernel)
set_option maxRecDepth 65536 in
theorem w_c22 : (Jvm.Cond.code ({ cls := "java/lang/StringUTF16", name := "charAt", desc := "([BI)C" } : Jvm.MethodName) jdk_52_method_83_code (2 : Nat) (Option.some Jvm.ClassFile.FieldType.char)).before args0 about1 = true := code_word (m := ⟨9, 10⟩) (meth := k9m10) (c := k9c10) (by decide +kernel) rfl rfl rfl (by decide +kernel)
set_option maxRecDepth 65536 in
theorem w_c23 : (Jvm.Cond.code ({ cls := "java/lang/StringUTF16", name := "checkIndex", desc := "(I[B)V" } : Jvm.MethodName) jdk_52_method_91_code (2 : Nat) (Option.none : Option Jvm.ClassFile.FieldType)).before args0 about1 = true := code_word (m := ⟨9, 11⟩) (meth := k9m11) (c := k9c11) (by decide +kernel) rfl rfl rfl (by decide +kernel)
set_option maxRecDepth 65536 in
theorem w_c24 : (Jvm.Cond.code ({ cls := "java/lang/StringUTF16", name := "length", desc := "([B)I" } : Jvm.MethodName) jdk_52_method_6_code (1 : Nat) (Option.some Jvm.ClassFile.FieldType.int)).before args0 about1 = true := code_word (m := ⟨9, 5⟩) (meth := k9m5) (c := k9c5) (by decide +kernel) rfl rfl rfl (by decide +kernel)
def codes1 : List Jvm.Cond := [Jvm.Cond.code x code maxLocals ret, Jvm.Cond.code ({ cls := "java/lang/String", name := "<init>", desc := "([C)V" } : Jvm.MethodName) jdk_42_method_3_code (2 : Nat) (Option.none : Option Jvm.ClassFile.FieldType), Jvm.Cond.code ({ cls := "java/lang/String", name := "<init>", desc := "([CIILjava/lang/Void;)V" } : Jvm.MethodName) jdk_42_method_149_code (6 : Nat) (Option.none : Option Jvm.ClassFile.FieldType), Jvm.Cond.code ({ cls := "java/lang/Object", name := "<init>", desc := "()V" } : Jvm.MethodName) object_method_1_code (1 : Nat) (Option.none : Option Jvm.ClassFile.FieldType), Jvm.Cond.code ({ cls := "com/example/headwater/headwater/core/XsNames", name := "isNamespaceName", desc := "(Ljava/lang/String;)Z" } : Jvm.MethodName) prog_60_method_4_code (4 : Nat) (Option.some Jvm.ClassFile.FieldType.boolean), Jvm.Cond.code ({ cls := "java/lang/String", name := "length", desc := "()I" } : Jvm.MethodName) jdk_42_method_54_code (1 : Nat) (Option.some Jvm.ClassFile.FieldType.int), Jvm.Cond.code ({ cls := "java/lang/String", name := "coder", desc := "()B" } : Jvm.MethodName) jdk_42_method_152_code (1 : Nat) (Option.some Jvm.ClassFile.FieldType.byte), Jvm.Cond.code ({ cls := "java/lang/StringUTF16", name := "compress", desc := "([CII)[B" } : Jvm.MethodName) jdk_52_method_16_code (6 : Nat) (Option.some (Jvm.ClassFile.FieldType.array Jvm.ClassFile.FieldType.byte)), Jvm.Cond.code ({ cls := "java/lang/StringUTF16", name := "compress", desc := "([CI[BII)I" } : Jvm.MethodName) jdk_52_method_21_code (7 : Nat) (Option.some Jvm.ClassFile.FieldType.int), Jvm.Cond.code ({ cls := "java/lang/StringUTF16", name := "coderFromArrayLen", desc := "([BI)B" } : Jvm.MethodName) jdk_52_method_15_code (2 : Nat) (Option.some Jvm.ClassFile.FieldType.byte), Jvm.Cond.code ({ cls := "com/example/headwater/headwater/core/XsNamesIsNamespaceNamePinLaw", name := "allowed", desc := "(C)Z" } : Jvm.MethodName) method_3_code (2 : Nat) (Option.some Jvm.ClassFile.FieldType.boolean), Jvm.Cond.code ({ cls := "java/lang/String", name := "charAt", desc := "(I)C" } : Jvm.MethodName) jdk_42_method_56_code (2 : Nat) (Option.some Jvm.ClassFile.FieldType.char), Jvm.Cond.code ({ cls := "java/lang/String", name := "isLatin1", desc := "()Z" } : Jvm.MethodName) jdk_42_method_154_code (1 : Nat) (Option.some Jvm.ClassFile.FieldType.boolean), Jvm.Cond.code ({ cls := "java/lang/StringLatin1", name := "charAt", desc := "([BI)C" } : Jvm.MethodName) jdk_43_method_2_code (2 : Nat) (Option.some Jvm.ClassFile.FieldType.char), Jvm.Cond.code ({ cls := "java/lang/String", name := "checkIndex", desc := "(II)V" } : Jvm.MethodName) jdk_42_method_155_code (2 : Nat) (Option.none : Option Jvm.ClassFile.FieldType), Jvm.Cond.code ({ cls := "jdk/internal/util/Preconditions", name := "checkIndex", desc := "(IILjava/util/function/BiFunction;)I" } : Jvm.MethodName) jdk_41_method_11_code (3 : Nat) (Option.some Jvm.ClassFile.FieldType.int), Jvm.Cond.code ({ cls := "com/example/headwater/headwater/core/Diagnostic", name := "breaksLine", desc := "(C)Z" } : Jvm.MethodName) prog_16_method_6_code (1 : Nat) (Option.some Jvm.ClassFile.FieldType.boolean), Jvm.Cond.code ({ cls := "java/lang/StringUTF16", name := "toBytes", desc := "([CII)[B" } : Jvm.MethodName) jdk_52_method_14_code (5 : Nat) (Option.some (Jvm.ClassFile.FieldType.array Jvm.ClassFile.FieldType.byte)), Jvm.Cond.code ({ cls := "java/lang/StringUTF16", name := "newBytesFor", desc := "(I)[B" } : Jvm.MethodName) jdk_52_method_2_code (1 : Nat) (Option.some (Jvm.ClassFile.FieldType.array Jvm.ClassFile.FieldType.byte)), Jvm.Cond.code ({ cls := "java/lang/StringUTF16", name := "newBytesLength", desc := "(I)I" } : Jvm.MethodName) jdk_52_method_3_code (1 : Nat) (Option.some Jvm.ClassFile.FieldType.int), Jvm.Cond.code ({ cls := "java/lang/StringUTF16", name := "putChar", desc := "([BII)V" } : Jvm.MethodName) jdk_52_method_4_code (3 : Nat) (Option.none : Option Jvm.ClassFile.FieldType), Jvm.Cond.code ({ cls := "java/lang/StringUTF16", name := "getChar", desc := "([BI)C" } : Jvm.MethodName) jdk_52_method_5_code (2 : Nat) (Option.some Jvm.ClassFile.FieldType.char), Jvm.Cond.code ({ cls := "java/lang/StringUTF16", name := "charAt", desc := "([BI)C" } : Jvm.MethodName) jdk_52_method_83_code (2 : Nat) (Option.some Jvm.ClassFile.FieldType.char), Jvm.Cond.code ({ cls := "java/lang/StringUTF16", name := "checkIndex", desc := "(I[B)V" } : Jvm.MethodName) jdk_52_method_91_code (2 : Nat) (Option.none : Option Jvm.ClassFile.FieldType), Jvm.Cond.code ({ cls := "java/lang/StringUTF16", name := "length", desc := "([B)I" } : Jvm.MethodName) jdk_52_method_6_code (1 : Nat) (Option.some Jvm.ClassFile.FieldType.int)]
set_option maxRecDepth 65536 in
theorem codes_eq : words1.filter isCode = codes1 := rfl
theorem w_codes : ∀ c ∈ words1.filter isCode, c.before args0 about1 = true := by
  rw [codes_eq]
  intro c hc
  simp only [codes1, List.mem_cons, List.not_mem_nil, or_false] at hc
  rcases hc with rfl | rfl | rfl | rfl | rfl | rfl | rfl | rfl | rfl | rfl | rfl | rfl | rfl | rfl | rfl | rfl | rfl | rfl | rfl | rfl | rfl | rfl | rfl | rfl | rfl
  · exact w_c0
  · exact w_c1
  · exact w_c2
  · exact w_c3
  · exact w_c4
  · exact w_c5
  · exact w_c6
  · exact w_c7
  · exact w_c8
  · exact w_c9
  · exact w_c10
  · exact w_c11
  · exact w_c12
  · exact w_c13
  · exact w_c14
  · exact w_c15
  · exact w_c16
  · exact w_c17
  · exact w_c18
  · exact w_c19
  · exact w_c20
  · exact w_c21
  · exact w_c22
  · exact w_c23
  · exact w_c24
set_option maxRecDepth 65536 in
theorem w_t1 : (words1.take 24).all (fun c => isCode c || c.before args0 about1) = true := by decide +kernel
set_option maxRecDepth 65536 in
theorem w_t2 : ((words1.drop 24).take 24).all (fun c => isCode c || c.before args0 about1) = true := by decide +kernel
set_option maxRecDepth 65536 in
theorem w_t3 : (((words1.drop 24).drop 24).take 24).all (fun c => isCode c || c.before args0 about1) = true := by decide +kernel
set_option maxRecDepth 65536 in
theorem w_t4 : ((((words1.drop 24).drop 24).drop 24).take 24).all (fun c => isCode c || c.before args0 about1) = true := by decide +kernel
set_option maxRecDepth 65536 in
theorem w_t5 : ((((words1.drop 24).drop 24).drop 24).drop 24).all (fun c => isCode c || c.before args0 about1) = true := by decide +kernel
theorem w_tables : (allAtoms (Jvm.Cond.code x code maxLocals ret :: tables_1)).before args0 about1 = true := by
  rw [allAtoms_all]
  show words1.all (fun c => c.before args0 about1) = true
  refine all_split ?_ w_codes
  rw [← List.take_append_drop 24 words1, List.all_append, w_t1, ← List.take_append_drop 24 (words1.drop 24), List.all_append, w_t2, ← List.take_append_drop 24 ((words1.drop 24).drop 24), List.all_append, w_t3, ← List.take_append_drop 24 (((words1.drop 24).drop 24).drop 24), List.all_append, w_t4, w_t5]
  rfl
set_option maxRecDepth 65536 in
theorem w_rest : rest_1_c.before args0 about1 = true := by decide +kernel
set_option maxRecDepth 65536 in
theorem w_case : (Jvm.Cond.and given_1 narrow_1).before args0 about1 = true := by decide +kernel
set_option maxRecDepth 65536 in
theorem w_consts : constsHeld consts_1 about1 := Jvm.Lit.constsHeldB_iff.mp (by decide +kernel)
theorem w_applies : (headSpec (Jvm.Cond.code x code maxLocals ret :: tables_1) room_1).applies x e0.platform about1 = true :=
  (Spec.applies_iff w_frames).mpr ⟨w_running, w_runnable, w_alone, w_named, w_hears, w_ripe, w_room, w_tables⟩
theorem atStart : AtStart classFile x code maxLocals ret World_1 tables_1 room_1 Calls_1 rest_1 Pre_1 launch0 p0 e0 about1 theMethod args0 below0 :=
  ⟨lists_1, trivial, launch0.admits_env _ _ _, launch0.least_env, fairChoices_fair.cas, fairChoices_fair.clock, w_frames, w_args, w_heap, w_applies, ⟨w_consts, trivial⟩, w_rest, w_case⟩
end start1
theorem witness_1 : WitnessClaimed_1 := ⟨start1.p0, start1.e0, start1.about1, start1.theMethod, start1.args0, start1.below0, start1.atStart⟩
end Jvm.Pilot.@@N@@
