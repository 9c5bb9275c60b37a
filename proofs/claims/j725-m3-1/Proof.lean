import JvmDerived
import JvmDerived.Pilot.@@N@@Statement
import JvmDerived.Pilot.@@N@@Code
set_option linter.unusedVariables false
set_option linter.unusedSimpArgs false

namespace Jvm.RoadKit
open Sem ClassFile Op Lib Jvm.Stand Jvm.Free Jvm.LawKit
section New
variable {p : Program} {l : Launch} {e : Env} {R : Room} {s : State} {m : MethodId} {args : Array Value} {below : List Frame} {meth : Method} {c : Code} {T : State} {locs : List Loc} {cells slots : Nat}
theorem retI (X : Stand p l e R s m args below meth c T locs cells slots) (hx : p.tables.exec = Jvm.exec) {pc : Nat} {Ls : Array Slot} {z : Int32} {rest : List Value} (hret : meth.sig.returnType = some .int) (hd : decode c.code pc = .ok (.ireturn, 1)) {fs : List Frame}
    (hl : ∀ (f : JFrame) (acts : List Action), f.method = m → f.locked = none → f.entered = [] → (doReturn e (T.setTop f) acts (some (.int z))).1 = T.setFrames fs) : Steps p.tables e below (T.setTop (mkF m pc Ls (.int z :: rest))) (T.setFrames fs) := by
  have hm' : T.vm.method? m = some meth := X.method'
  have hn : narrow .int (.int z) = .int z := rfl
  show Steps p.tables e below (T.setTop { method := m, pc := pc, locals := Ls, stack := _ :: rest, locked := none }) _
  jvm_step X.here [X.here.top, hx, hd, hm', hret, hn]
  first | (intro acts; rw [hl _ acts rfl rfl rfl]) | rw [hl _ _ rfl rfl rfl]
  exact Steps.refl _
end New
end Jvm.RoadKit

namespace Jvm.Pilot.@@N@@
open Jvm Jvm.ClassFile Sem Op Lib Jvm.Free Jvm.Stand Jvm.LawKit Jvm.RoadKit Bundle Jvm.Pilot.@@N@@.Jvm.D
theorem own_stak {Z : State} {h h' : Heap} {C n d : String} {v : Value} {ws : List Addr} (F : Sta Z h C n d v) (K : Keep h h' ws) (q : ∀ x ∈ ws, ∀ c : Cell, h[x]? = some c → c.vm.isStatics = false) : Sta Z h' C n d v := by
  obtain ⟨cf, i, k, f, st, cell, h1, h2, h3, h4, h5, h6, h7⟩ := F
  refine ⟨cf, i, k, f, st, cell, h1, h2, h3, h4, K.2.1 st cell h5 (fun hm => ?_), h6, h7⟩
  have e := q st hm cell h5
  rw [h6] at e; cases e
theorem own_exns {Z : State} {h : Heap} {a : Addr} {C : String} (E : Exa Z h a C) : ∀ c : Cell, h[a]? = some c → c.vm.isStatics = false := fun c hc => by
  obtain ⟨c', k, e1, -, -, e4, -⟩ := E
  cases hc.symm.trans e1; exact e4
theorem own_arns {Z : State} {h : Heap} {a : Addr} {k : ClassId} {ty : FieldType} {z : Int32} {vs : List Value} {d : Value} (A : Arv Z h a k ty z vs d) : ∀ c : Cell, h[a]? = some c → c.vm.isStatics = false := fun c hc => by
  obtain ⟨c', A', -⟩ := A
  have e := A'.plain
  cases hc.symm.trans A'.1; exact e
abbrev oS (p : Program) (e : Env) (below : List Frame) (T : State) (g : JFrame) (t : State) : Prop := Steps p.tables e below (T.setTop g) t
theorem own_w (i : Nat) {d : Jvm.Cond} (h : tables_1[i]? = some d) : d ∈ tables_1 := List.mem_of_getElem? h
abbrev own_Met (l : Launch) (y : MethodName) (bytes : ByteArray) (maxL : Nat) (ret : Option FieldType) (ws : List Jvm.Cond) (rm : Room) (as' : Array Value) (Z : State) (h0 : Heap) (Q : Option Value → Heap → List Loc → Prop) : Prop :=
  MetFree l y (head1 (Jvm.Cond.code y bytes maxL ret :: ws) rm) (fun aU U => aU = as' ∧ Z.Warmed39 U.vm ∧ U.heap = h0) (fun _ _ _ _ _ => True) (fun _ U oU U' => ∃ vU LU, oU = .returned vU ∧ Q vU U'.heap LU ∧ FrameEnd U oU U' LU rm.cells rm.slots)
theorem own_weak {l : Launch} {y : MethodName} {bytes : ByteArray} {maxL : Nat} {ret : Option FieldType} {ws : List Jvm.Cond} {rm : Room} {as' : Array Value} {Z : State} {h0 : Heap} {Q Q' : Option Value → Heap → List Loc → Prop} (h : own_Met l y bytes maxL ret ws rm as' Z h0 Q) (hq : ∀ v t L, Q v t L → Q' v t L) : own_Met l y bytes maxL ret ws rm as' Z h0 Q' := by
  intro p e ha hc hk s m args below hf happ hP hK
  obtain ⟨n, o, h1, h2, h3, v, L, h4, h5, h6⟩ := h p e ha hc hk s m args below hf happ hP hK
  exact ⟨n, o, h1, h2, h3, v, L, h4, hq _ _ _ h5, h6⟩
theorem own_start {p : Program} {l : Launch} {y : MethodName} {ws : List Jvm.Cond} {rm : Room} {code : ByteArray} {maxL : Nat} {ret : Option FieldType} {e : Env} {s : State} {m : MethodId} {args : Array Value} {below : List Frame} {meth : Method} {c : Code} {s₁ : State} {h0 : Heap}
    (Bd : BodyLoose p l y (head1 ws rm) code maxL ret e s m args below meth c s₁) (hml : c.maxLocals = maxL) (hh : s.heap = h0) :
    p.tables.exec = Jvm.exec ∧ c.code = code ∧ s.vm.findClass y.cls = some m.cls ∧ meth.name = y.name ∧ Stand p l e rm s m args below meth c s₁ [] 0 0 ∧ s₁.heap = h0 :=
  ⟨Bd.exec, Bd.bytes, findClass_of_methodNamed Bd.named, (name_of_methodNamed Bd.named Bd.method).1, Stand.of_body Bd, by rw [← hh, Bd.state]; rfl⟩
section OwnCalls
variable {p : Program} {l : Launch} {e : Env} {R : Room} {s : State} {m : MethodId} {args : Array Value} {below : List Frame} {meth : Method} {c : Code} {T : State} {locs : List Loc} {cells slots : Nat} {Z : State} {a0 : Array Value} {h : Heap}
  {own : String} {index : Nat} {y z : MethodName} {bytes : ByteArray} {maxL : Nat} {ret : Option FieldType} {rm : Room} {W : Nat} {as' : Array Value} {Q : Option Value → Heap → List Loc → Prop}
theorem own_callS (X : Stand p l e R s m args below meth c T locs cells slots) (hx : p.tables.exec = Jvm.exec) (hZ : Z.Warmed39 s.vm) (hown : s.vm.findClass own = some m.cls) (hlink : (Cond.methodLink own index y).before a0 Z = true) (hstat : (Cond.static y).before a0 Z = true) (hinit : (Cond.initialized y.cls).before a0 Z = true)
    (hcode : (Cond.code y bytes maxL ret).before a0 Z = true) (hy : y.cls ≠ "java/lang/invoke/MethodHandle" ∧ y.cls ≠ "java/lang/invoke/VarHandle")
    (hM : own_Met l y bytes maxL ret [] rm as' Z h Q)
    (hf : rm.frames + 1 ≤ R.frames) (hl : W + (maxL + 11) + rm.locals ≤ R.locals) {g : JFrame} (hg : g.method = m) (hsize : g.locals.size = c.maxLocals) {argsL rest : List Value} (hlen : ∀ sig, parseMethodDescriptor y.desc = some sig → argsL.length = sig.parameters.length)
    (hstack : g.stack = argsL.reverse ++ rest) (hdg : decode c.code g.pc = .ok (.invokestatic index, 3)) (has : argsL.toArray = as') (eT : T.heap = h) (hc : cells + rm.cells ≤ R.cells) (hs : slots + rm.slots ≤ R.slots) (hW : 2 * g.monitorRoom + (rest.map fun v => v.category).sum ≤ W := by show 2 * 0 + _ ≤ _; exact Nat.le_of_eq rfl) :
    ∃ (v : Option Value) (T' : State) (L : List Loc), Stand p l e R s m args below meth c T' (locs ++ L) (cells + rm.cells) (slots + rm.slots) ∧ Q v T'.heap L ∧ ∀ target, Steps p.tables e below (T'.setTop { g with pc := g.pc + 3, stack := v.toList ++ rest }) target → Steps p.tables e below (T.setTop g) target := by
  obtain ⟨v, _, ⟨T3, L3, k3, n3⟩, -, X3, ⟨Lc3, hQ3, l3, y3, z3⟩, st3⟩ := Jvm.LawKit.callS X hx hown (mvT hZ hlink) (mvT hZ hstat) (mvT hZ hinit) (mvT hZ hcode) hy (backOf (W := W) hM hZ hcode hinit hf hl) hg hsize hlen hstack hW hdg (fun _ _ => ⟨has, eT, hc, hs⟩)
  dsimp only [Pt.U, Pt.locs, Pt.cells, Pt.slots] at X3 l3 y3 z3 st3 hQ3
  subst l3 y3 z3
  exact ⟨v, T3, Lc3, X3, hQ3, st3⟩
theorem own_special (X : Stand p l e R s m args below meth c T locs cells slots) (hx : p.tables.exec = Jvm.exec) (hZ : Z.Warmed39 s.vm) (hy1 : y.name = "<init>") (hown : s.vm.findClass own = some m.cls) (hlink : (Cond.methodLink own index y).before a0 Z = true) (hinst : (Cond.instanceMethod y).before a0 Z = true)
    (hcode : (Cond.code y bytes maxL none).before a0 Z = true) (hinit : (Cond.initialized y.cls).before a0 Z = true) (hy : y.cls ≠ "java/lang/invoke/MethodHandle" ∧ y.cls ≠ "java/lang/invoke/VarHandle")
    (hM : own_Met l y bytes maxL none [] rm as' Z h Q)
    (hf : rm.frames + 1 ≤ R.frames) (hl : W + (maxL + 11) + rm.locals ≤ R.locals) {g : JFrame} (hg : g.method = m) (hsize : g.locals.size = c.maxLocals) {a : Addr} {argsL rest : List Value} (hlen : ∀ sig, parseMethodDescriptor y.desc = some sig → argsL.length = sig.parameters.length)
    (hstack : g.stack = argsL.reverse ++ .ref a :: rest) (hdg : decode c.code g.pc = .ok (.invokespecial index, 3)) (has : (.ref a :: argsL).toArray = as') (eT : T.heap = h) (hc : cells + rm.cells ≤ R.cells) (hs : slots + rm.slots ≤ R.slots) (hW : 2 * g.monitorRoom + (rest.map fun v => v.category).sum ≤ W := by show 2 * 0 + _ ≤ _; exact Nat.le_of_eq rfl) :
    ∃ (v : Option Value) (T' : State) (L : List Loc), Stand p l e R s m args below meth c T' (locs ++ L) (cells + rm.cells) (slots + rm.slots) ∧ Q v T'.heap L ∧ ∀ target, Steps p.tables e below (T'.setTop { g with pc := g.pc + 3, stack := v.toList ++ rest }) target → Steps p.tables e below (T.setTop g) target := by
  obtain ⟨v, _, ⟨T3, L3, k3, n3⟩, -, X3, ⟨Lc3, hQ3, l3, y3, z3⟩, st3⟩ := X.specialBack hx hy1 hown (mvT hZ hlink) (mvT hZ hinst) (mvT hZ hcode) hy (backOf (W := W) hM hZ hcode hinit hf hl) hg hsize (Steps.refl _) hlen hstack hW hdg (fun _ _ => ⟨has, eT, hc, hs⟩)
  dsimp only [Pt.U, Pt.locs, Pt.cells, Pt.slots] at X3 l3 y3 z3 st3 hQ3
  subst l3 y3 z3
  exact ⟨v, T3, Lc3, X3, hQ3, fun target k => st3.trans k⟩
theorem own_virtual (X : Stand p l e R s m args below meth c T locs cells slots) (hx : p.tables.exec = Jvm.exec) (hZ : Z.Warmed39 s.vm) {C : String} (hown : s.vm.findClass own = some m.cls) (hlink : (Cond.methodLink own index y).before a0 Z = true) (hdecl : (Cond.declares y).before a0 Z = true) (hnf : NotFace s y) (hsel : (Cond.selects C y z).before a0 Z = true) (hinst : (Cond.instanceMethod z).before a0 Z = true)
    (hcode : (Cond.code z bytes maxL ret).before a0 Z = true) (hinit : (Cond.initialized z.cls).before a0 Z = true) (hy : y.cls ≠ "java/lang/invoke/MethodHandle" ∧ y.cls ≠ "java/lang/invoke/VarHandle")
    (hM : own_Met l z bytes maxL ret [] rm as' Z h Q)
    (hf : rm.frames + 1 ≤ R.frames) (hl : W + (maxL + 11) + rm.locals ≤ R.locals) {a : Addr} (E : Exa Z h a C) {g : JFrame} (hg : g.method = m) (hsize : g.locals.size = c.maxLocals) {argsL rest : List Value} (hlen : ∀ sig, parseMethodDescriptor y.desc = some sig → argsL.length = sig.parameters.length)
    (hstack : g.stack = argsL.reverse ++ .ref a :: rest) (hdg : decode c.code g.pc = .ok (.invokevirtual index, 3)) (has : (.ref a :: argsL).toArray = as') (eT : T.heap = h) (hc : cells + rm.cells ≤ R.cells) (hs : slots + rm.slots ≤ R.slots) (hW : 2 * g.monitorRoom + (rest.map fun v => v.category).sum ≤ W := by show 2 * 0 + _ ≤ _; exact Nat.le_of_eq rfl) :
    ∃ (v : Option Value) (T' : State) (L : List Loc), Stand p l e R s m args below meth c T' (locs ++ L) (cells + rm.cells) (slots + rm.slots) ∧ Q v T'.heap L ∧ ∀ target, Steps p.tables e below (T'.setTop { g with pc := g.pc + 3, stack := v.toList ++ rest }) target → Steps p.tables e below (T.setTop g) target := by
  obtain ⟨cq, kq, qa, qb, qc⟩ := isOf hZ eT E
  obtain ⟨v, _, ⟨T3, L3, k3, n3⟩, -, X3, ⟨Lc3, hQ3, l3, y3, z3⟩, st3⟩ := X.virtualBack hx hown (mvT hZ hlink) (mvT hZ hdecl) hnf (mvT hZ hsel) (mvT hZ hinst) hy (backOf (W := W) hM hZ hcode hinit hf hl) qa qc hg hsize (Steps.refl _) hlen hstack hW hdg (fun _ _ => ⟨has, eT, hc, hs⟩)
  dsimp only [Pt.U, Pt.locs, Pt.cells, Pt.slots] at X3 l3 y3 z3 st3 hQ3
  subst l3 y3 z3
  exact ⟨v, T3, Lc3, X3, hQ3, fun target k => st3.trans k⟩
end OwnCalls
abbrev mN0 : MethodName := ⟨"java/lang/Character", "isISOControl", "(I)Z"⟩
abbrev mN1 : MethodName := ⟨"java/lang/Character", "isISOControl", "(C)Z"⟩
abbrev mN2 : MethodName := ⟨"com/example/headwater/headwater/core/HttpFieldsIsFieldValuePinLaw", "ok", "(C)Z"⟩
abbrev mN3 : MethodName := ⟨"java/lang/String", "<init>", "([CIILjava/lang/Void;)V"⟩
abbrev mN4 : MethodName := ⟨"java/lang/String", "<init>", "([C)V"⟩
abbrev mN5 : MethodName := ⟨"java/lang/String", "coder", "()B"⟩
abbrev mN6 : MethodName := ⟨"java/lang/String", "length", "()I"⟩
abbrev mN7 : MethodName := ⟨"com/example/headwater/headwater/core/HttpFields", "isFieldValue", "(Ljava/lang/String;)Z"⟩
abbrev mN8 : MethodName := ⟨"jdk/internal/util/Preconditions", "checkIndex", "(IILjava/util/function/BiFunction;)I"⟩
abbrev mN9 : MethodName := ⟨"java/lang/String", "checkIndex", "(II)V"⟩
abbrev mN10 : MethodName := ⟨"java/lang/String", "isLatin1", "()Z"⟩
abbrev mN11 : MethodName := ⟨"java/lang/StringUTF16", "length", "([B)I"⟩
abbrev mN12 : MethodName := ⟨"java/lang/StringUTF16", "checkIndex", "(I[B)V"⟩
abbrev mN13 : MethodName := ⟨"java/lang/StringUTF16", "getChar", "([BI)C"⟩
abbrev mN14 : MethodName := ⟨"java/lang/StringUTF16", "charAt", "([BI)C"⟩
abbrev mN15 : MethodName := ⟨"java/lang/String", "charAt", "(I)C"⟩
abbrev mN16 : MethodName := ⟨"java/lang/StringLatin1", "charAt", "([BI)C"⟩
abbrev mN17 : MethodName := ⟨"java/lang/StringLatin1", "canEncode", "(C)Z"⟩
abbrev mN18 : MethodName := ⟨"java/lang/StringLatin1", "toBytes", "(C)[B"⟩
abbrev mN19 : MethodName := ⟨"java/lang/StringUTF16", "putChar", "([BII)V"⟩
abbrev mN20 : MethodName := ⟨"java/lang/StringUTF16", "toBytes", "(C)[B"⟩
abbrev mN21 : MethodName := ⟨"java/lang/String", "<init>", "([BB)V"⟩
abbrev mN22 : MethodName := ⟨"java/lang/String", "valueOf", "(C)Ljava/lang/String;"⟩
abbrev mN23 : MethodName := ⟨"java/lang/StringUTF16", "compress", "([CI[BII)I"⟩
abbrev mN24 : MethodName := ⟨"java/lang/StringUTF16", "newBytesLength", "(I)I"⟩
abbrev mN25 : MethodName := ⟨"java/lang/StringUTF16", "newBytesFor", "(I)[B"⟩
abbrev mN26 : MethodName := ⟨"java/lang/StringUTF16", "toBytes", "([CII)[B"⟩
abbrev mN27 : MethodName := ⟨"java/lang/StringUTF16", "compress", "([CII)[B"⟩
abbrev mN28 : MethodName := ⟨"java/lang/StringUTF16", "coderFromArrayLen", "([BI)B"⟩
theorem own_wS {Z : State} {av0 : Array Value} (hw : ∀ d ∈ tables_1, d.before av0 Z = true) : ∀ a ∈ Bundle.stringAtoms, a.before av0 Z = true := fun d hd => hw d (List.contains_iff_mem.mp (List.all_eq_true.mp (by decide +kernel : (Bundle.stringAtoms.all fun q => tables_1.contains q) = true) d hd))
theorem own_backI {l : Launch} {R : Room} {p : Program} {e : Env} {below : List Frame} {s : State} {args : Array Value} {Z : State} {a0 : Array Value} {h : Heap} {y : MethodName} {bytes : ByteArray} {maxL : Nat} {ret : Option FieldType} {rm : Room} {len W : Nat} {as' : Array Value} {Q : Option Value → Heap → List Loc → Prop}
    (hM : MetFree l y (head1 [Cond.code y bytes maxL ret] rm) (fun a U => a = as' ∧ Z.Warmed39 U.vm ∧ U.heap = h ∧ IB Z U.vm []) (fun _ _ _ _ _ => True) (fun _ U o U' => ∃ v L, o = .returned v ∧ Q v U'.heap L ∧ ReturnedEndW U o U' L rm.cells rm.slots))
    (hZ : Z.Warmed39 s.vm) (wc : (Cond.code y bytes maxL ret).before a0 Z = true) (wz : (Cond.initialized y.cls).before a0 Z = true) (hf : rm.frames + 1 ≤ R.frames) (hl : W + (maxL + 11) + rm.locals ≤ R.locals) (hI : IB Z s.vm []) :
    BackS l R p e below s args y len W (fun A a => a = as' ∧ A.U.heap = h ∧ A.cells + rm.cells ≤ R.cells ∧ A.slots + rm.slots ≤ R.slots)
      (fun A _ v B => ∃ L, Q v B.U.heap L ∧ B.locs = A.locs ++ L ∧ B.cells = A.cells + rm.cells ∧ B.slots = A.slots + rm.slots) :=
  BackS.of_freeW (bytes := bytes) (maxL := maxL) (ret := ret) (E := fun _ _ o t L k n => k = rm.cells ∧ n = rm.slots ∧ ∃ v, o = .returned v ∧ Q v t.heap L) hM hf hl
    (fun m meth c A a Y hp => have hU : Z.Warmed39 A.U.vm := wtrans hZ Y.warmed
      ⟨by show (Cond.and _ .tt).before a A.U = true; rw [Cond.before_and, mv hU wc]; rfl, mv hU wc, mv hU wz, hp.2.2.1, hp.2.2.2⟩)
    (fun m meth c A a g mk Y hp => ⟨hp.1, wtrans hZ Y.warmed, hp.2.1, by
      obtain ⟨more, e1, e2⟩ := hI
      exact ⟨more, Y.warmed.interned_eq.trans e1, e2⟩⟩) (fun _ _ _ _ _ _ _ _ _ => trivial)
    (fun _ _ _ _ ⟨v, L, h1, h2, h3⟩ => ⟨L, _, _, h3, rfl, rfl, v, h1, h2⟩)
    (fun m meth c A a g mk v t L k n Y hp _ _ ⟨e1, e2, v', e3, e4⟩ => by cases e3; subst e1 e2; exact ⟨L, e4, rfl, rfl, rfl⟩)
theorem own_specialI {p : Program} {l : Launch} {e : Env} {R : Room} {s : State} {m : MethodId} {args : Array Value} {below : List Frame} {meth : Method} {c : Code} {T : State} {locs : List Loc} {cells slots : Nat} {Z : State} {a0 : Array Value} {h : Heap}
    {own : String} {index : Nat} {y : MethodName} {bytes : ByteArray} {maxL : Nat} {rm : Room} {W : Nat} {as' : Array Value} {Q : Option Value → Heap → List Loc → Prop}
    (X : Stand p l e R s m args below meth c T locs cells slots) (hx : p.tables.exec = Jvm.exec) (hZ : Z.Warmed39 s.vm) (hy1 : y.name = "<init>") (hown : s.vm.findClass own = some m.cls) (hlink : (Cond.methodLink own index y).before a0 Z = true) (hinst : (Cond.instanceMethod y).before a0 Z = true)
    (hcode : (Cond.code y bytes maxL none).before a0 Z = true) (hinit : (Cond.initialized y.cls).before a0 Z = true) (hy : y.cls ≠ "java/lang/invoke/MethodHandle" ∧ y.cls ≠ "java/lang/invoke/VarHandle")
    (hM : MetFree l y (head1 [Cond.code y bytes maxL none] rm) (fun a U => a = as' ∧ Z.Warmed39 U.vm ∧ U.heap = h ∧ IB Z U.vm []) (fun _ _ _ _ _ => True) (fun _ U o U' => ∃ v L, o = .returned v ∧ Q v U'.heap L ∧ ReturnedEndW U o U' L rm.cells rm.slots))
    (hf : rm.frames + 1 ≤ R.frames) (hl : W + (maxL + 11) + rm.locals ≤ R.locals) (hI : IB Z s.vm []) {g : JFrame} (hg : g.method = m) (hsize : g.locals.size = c.maxLocals) {a : Addr} {argsL rest : List Value} (hlen : ∀ sig, parseMethodDescriptor y.desc = some sig → argsL.length = sig.parameters.length)
    (hstack : g.stack = argsL.reverse ++ .ref a :: rest) (hdg : decode c.code g.pc = .ok (.invokespecial index, 3)) (has : (.ref a :: argsL).toArray = as') (eT : T.heap = h) (hc : cells + rm.cells ≤ R.cells) (hs : slots + rm.slots ≤ R.slots) (hW : 2 * g.monitorRoom + (rest.map fun v => v.category).sum ≤ W := by show 2 * 0 + _ ≤ _; exact Nat.le_of_eq rfl) :
    ∃ (v : Option Value) (T' : State) (L : List Loc), Stand p l e R (s.setVm T'.vm) m args below meth c T' (locs ++ L) (cells + rm.cells) (slots + rm.slots) ∧ s.Since T'.vm T'.heap.size ∧ Q v T'.heap L ∧ ∀ target, Steps p.tables e below (T'.setTop { g with pc := g.pc + 3, stack := v.toList ++ rest }) target → Steps p.tables e below (T.setTop g) target := by
  obtain ⟨v, _, ⟨T3, L3, k3, n3⟩, -, X3, hS3, hgr3, ⟨Lc3, hQ3, l3, y3, z3⟩, st3⟩ := X.specialBackS hx hy1 hown (mvT hZ hlink) (mvT hZ hinst) (mvT hZ hcode) hy (own_backI (W := W) hM hZ hcode hinit hf hl hI) hg hsize (Steps.refl _) hlen hstack hW hdg (fun _ _ => ⟨has, eT, hc, hs⟩)
  dsimp only [Pt.U, Pt.locs, Pt.cells, Pt.slots] at X3 l3 y3 z3 st3 hQ3 hS3
  subst l3 y3 z3
  exact ⟨v, T3, Lc3, X3, hS3, hQ3, fun target k => st3.trans k⟩
def own_c (p : Int32) : Int32 := p.toUInt32.toUInt16.toUInt32.toInt32
theorem own_cr (p : Int32) : 0 ≤ (own_c p).toInt ∧ (own_c p).toInt < 65536 := by
  have h := c_i2c p
  exact ⟨h.2.1, h.2.2⟩
theorem own_nar (x : Int32) (h0 : 0 ≤ x.toInt) (h1 : x.toInt < 65536) : nar .char x = x := by
  show x.toUInt32.toUInt16.toUInt32.toInt32 = x
  have h := c_i2c x
  apply Int32.toInt_inj.mp; omega
theorem own_nc (p : Int32) : nar .char (own_c p) = own_c p := own_nar _ (own_cr p).1 (own_cr p).2
theorem own_fc (p : Int32) : fits .char (.int (own_c p)) = true := by rw [← own_nc]; exact fits_nar_char _
def own_b (x : Int32) : Int32 := nar .byte x.toInt8.toInt32
theorem own_bv (x : Int32) : ((own_b x).toInt - x.toInt) % 256 = 0 ∧ -128 ≤ (own_b x).toInt ∧ (own_b x).toInt < 128 := by
  show ((x.toInt8.toInt32.toInt8.toInt32).toInt - x.toInt) % 256 = 0 ∧ -128 ≤ (x.toInt8.toInt32.toInt8.toInt32).toInt ∧ (x.toInt8.toInt32.toInt8.toInt32).toInt < 128
  have h1 := c_i2b x
  have h2 := c_i2b x.toInt8.toInt32
  omega
def own_lc (x : Int32) : Int32 := nar .char (own_c (x &&& 255))
theorem own_lcv (c : Int32) (h0 : 0 ≤ c.toInt) (h1 : ¬ (255 : Int32) < c) : own_lc (own_b c) = c := by
  have hb := own_bv c
  have hm : (own_b c &&& 255).toInt = (own_b c).toInt % (2 ^ 8 : Nat) := c_mask _ 255 8 (by decide) (by decide)
  rw [Int32.lt_iff_toInt_lt, show (255 : Int32).toInt = 255 from rfl] at h1
  have hc := c_i2c (own_b c &&& 255)
  have e : own_c (own_b c &&& 255) = c := by
    apply Int32.toInt_inj.mp
    show (own_b c &&& 255).toUInt32.toUInt16.toUInt32.toInt32.toInt = c.toInt
    omega
  show nar .char (own_c (own_b c &&& 255)) = c
  rw [own_nc, e]
def own_lo (c : Int32) : Int32 := own_b (c >>> ((0 : Int32) &&& 31))
def own_hi (c : Int32) : Int32 := own_b (c >>> ((8 : Int32) &&& 31))
def own_gc (x y : Int32) : Int32 := nar .char (own_c (((x &&& 255) <<< ((0 : Int32) &&& 31)) ||| ((y &&& 255) <<< ((8 : Int32) &&& 31))))
theorem own_gcv (c : Int32) (h0 : 0 ≤ c.toInt) (h1 : c.toInt < 65536) : own_gc (own_lo c) (own_hi c) = c := by
  have s0 : (c >>> ((0 : Int32) &&& 31)).toInt = c.toInt / (2 ^ 0 : Nat) := c_ishr c 0 0 (by decide)
  have s8 : (c >>> ((8 : Int32) &&& 31)).toInt = c.toInt / (2 ^ 8 : Nat) := c_ishr c 8 8 (by decide)
  have hl := own_bv (c >>> ((0 : Int32) &&& 31))
  have hh := own_bv (c >>> ((8 : Int32) &&& 31))
  have ml : (own_lo c &&& 255).toInt = (own_lo c).toInt % (2 ^ 8 : Nat) := c_mask _ 255 8 (by decide) (by decide)
  have mh : (own_hi c &&& 255).toInt = (own_hi c).toInt % (2 ^ 8 : Nat) := c_mask _ 255 8 (by decide) (by decide)
  have l0 := c_ishl (own_lo c &&& 255) 0 0 (by decide)
  have l8 := c_ishl (own_hi c &&& 255) 8 8 (by decide)
  have el : (own_lo c).toInt = (own_b (c >>> ((0 : Int32) &&& 31))).toInt := rfl
  have eh : (own_hi c).toInt = (own_b (c >>> ((8 : Int32) &&& 31))).toInt := rfl
  have r0 := rng32 ((own_lo c &&& 255) <<< ((0 : Int32) &&& 31))
  have r8 := rng32 ((own_hi c &&& 255) <<< ((8 : Int32) &&& 31))
  generalize ha : (own_lo c &&& 255) <<< ((0 : Int32) &&& 31) = A at *
  generalize hb : (own_hi c &&& 255) <<< ((8 : Int32) &&& 31) = B at *
  have vA : A.toInt = c.toInt % 256 := by omega
  have vB : B.toInt = c.toInt / 256 * 256 := by omega
  have ho := c_or' A B 8 (by decide) 256 (by decide) (by omega) (by omega) (by omega)
  have rO := rng32 (A ||| B)
  have hc := c_i2c (A ||| B)
  have e : own_c (A ||| B) = c := by
    apply Int32.toInt_inj.mp
    show (A ||| B).toUInt32.toUInt16.toUInt32.toInt32.toInt = c.toInt
    omega
  show nar .char (own_c (((own_lo c &&& 255) <<< ((0 : Int32) &&& 31)) ||| ((own_hi c &&& 255) <<< ((8 : Int32) &&& 31)))) = c
  rw [ha, hb, own_nc, e]
theorem own_arne {Z : State} {h : Heap} {a b : Addr} {k : ClassId} {z : Int32} {vs : List Value} {d : Value} {cl : Cell} (A : Arv Z h b k .byte z vs d) (B : Arr Z h a cl .char) : b ≠ a := fun q => by
  subst q
  obtain ⟨c, A', -⟩ := A
  cases A'.1.symm.trans B.1
  obtain ⟨-, k1, h1, c1, e1⟩ := A'.2.1
  obtain ⟨-, k2, h2, c2, e2⟩ := B.2.1
  cases h1.symm.trans h2
  rw [e1] at e2; cases e2
theorem own_cc (p : Int32) : own_c (own_c p) = own_c p := own_nc p
def own_iso (c : Int32) : Int32 := if 159 < c then 0 else if c < 127 then (if XT.ushr c 5 = 0 then 1 else 0) else 1
theorem own_isob (c : Int32) : nar .boolean (own_iso c) = own_iso c := by
  unfold own_iso; repeat' split
  all_goals rfl
def own_ok (c : Int32) : Int32 := if c = 9 then 1 else if c < 32 then 0 else if c < 127 then 1 else if 159 < c then 1 else 0
def own_fv : List Int32 → Int32
  | [] => 1
  | c :: r => if c = 9 then own_fv r else if own_iso c = 0 then own_fv r else 0
theorem own_okiso (c : Int32) (h0 : 0 ≤ c.toInt) : own_ok c = 0 ↔ ¬ c = 9 ∧ ¬ own_iso c = 0 := by
  have h4 : (XT.ushr c 5).toInt = (c.toInt % 4294967296) / (2 ^ 5 : Nat) := c_iushr c 5 5 (by decide) (by decide)
  have hr := rng32 c
  unfold own_ok own_iso
  simp only [Int32.lt_iff_toInt_lt, ← Int32.toInt_inj]
  rw [h4]
  simp only [show (32 : Int32).toInt = 32 from rfl, show (127 : Int32).toInt = 127 from rfl, show (9 : Int32).toInt = 9 from rfl, show (159 : Int32).toInt = 159 from rfl, show (0 : Int32).toInt = 0 from rfl]
  repeat' split
  all_goals simp
  all_goals omega
theorem own_ok1 {c : Int32} (h : ¬ own_ok c = 0) : own_ok c = 1 := by
  unfold own_ok at *; revert h; repeat' split
  all_goals simp
theorem own_fstep (p : Int32) (r : List Int32) : own_fv (own_c p :: r) = if own_ok (own_c p) = 0 then 0 else own_fv r := by
  show (if own_c p = 9 then own_fv r else if own_iso (own_c p) = 0 then own_fv r else 0) = _
  have h := own_okiso (own_c p) (own_cr p).1
  by_cases h1 : own_c p = 9
  · rw [if_pos h1, if_neg (fun q => (h.mp q).1 h1)]
  · by_cases h2 : own_iso (own_c p) = 0
    · rw [if_neg h1, if_pos h2, if_neg (fun q => (h.mp q).2 h2)]
    · rw [if_neg h1, if_neg h2, if_pos (h.mpr ⟨h1, h2⟩)]
theorem own_fend : own_fv [] = 1 := rfl
theorem d20_0 : decode jdk_89_method_89_code 0 = .ok (.iload_n 0, 1) := by decide +kernel
theorem d20_1 : decode jdk_89_method_89_code 1 = .ok (.sipush 159, 3) := by decide +kernel
theorem d20_4 : decode jdk_89_method_89_code 4 = .ok (.if_icmp .gt 19, 3) := by decide +kernel
theorem d20_7 : decode jdk_89_method_89_code 7 = .ok (.iload_n 0, 1) := by decide +kernel
theorem d20_8 : decode jdk_89_method_89_code 8 = .ok (.bipush 127, 2) := by decide +kernel
theorem d20_10 : decode jdk_89_method_89_code 10 = .ok (.if_icmp .ge 9, 3) := by decide +kernel
theorem d20_13 : decode jdk_89_method_89_code 13 = .ok (.iload_n 0, 1) := by decide +kernel
theorem d20_14 : decode jdk_89_method_89_code 14 = .ok (.iconst 5, 1) := by decide +kernel
theorem d20_15 : decode jdk_89_method_89_code 15 = .ok (.iushr, 1) := by decide +kernel
theorem d20_16 : decode jdk_89_method_89_code 16 = .ok (.ifCond .ne 7, 3) := by decide +kernel
theorem d20_19 : decode jdk_89_method_89_code 19 = .ok (.iconst 1, 1) := by decide +kernel
theorem d20_20 : decode jdk_89_method_89_code 20 = .ok (.goto 4, 3) := by decide +kernel
theorem d20_23 : decode jdk_89_method_89_code 23 = .ok (.iconst 0, 1) := by decide +kernel
theorem d20_24 : decode jdk_89_method_89_code 24 = .ok (.ireturn, 1) := by decide +kernel
theorem pn_Character : plainName "java/lang/Character" = true := by first | (simp [plainName, overriddenIn]; done) | decide +kernel
def QrmIsoI (Z : State) (p0 : Int32) (h0 : Heap) (n0 : Nat) (v : Option Value) (h : Heap) (L : List Loc) : Prop := v = some (.int (own_iso p0)) ∧ Fr n0 L ∧ h = h0
set_option maxRecDepth 65536 in
set_option maxHeartbeats 40000000 in
theorem rmIsoI (l : Launch) (Z : State) (av0 : Array Value) (hw : ∀ d ∈ tables_1, d.before av0 Z = true) (ws : List Jvm.Cond) (p0 : Int32) (h0 : Heap) (n0 : Nat) (Z0 : n0 ≤ h0.size)  :
    own_Met l mN0 jdk_89_method_89_code 1 (some .boolean) ws ({ frames := 0, cells := 0, slots := 0, locals := 0 } : Room) #[(.int p0)] Z h0 (QrmIsoI Z p0 h0 n0) := by
  refine MetFree.of_bodySF (plainFor_of_name pn_Character) hisR ?_
  intro p e s m args below meth c s₁ Bd hml0 hP hK
  obtain ⟨rfl, hZ, hh⟩ := hP
  have hml : c.maxLocals = 1 := hml0
  obtain ⟨hx, hby, hown, hnm, X0, e0⟩ := own_start Bd hml0 hh
  have N0 := Fr.nil n0
  have pre0 : ∀ t, oS p e below s₁ (mkF m 0 #[iv p0] []) t → Steps p.tables e below (s₁.setTop (entryFrame m #[(.int p0)] 1)) t := fun t k => castTop (by first | (simp [entryFrame, mkF, argsToLocals, Value.category]; done) | rfl) k
  have S1 : ∀ t, oS p e below s₁ (mkF m 4 #[iv p0] [(.int 159), (.int p0)]) t → oS p e below s₁ (mkF m 0 #[iv p0] []) t := fun t k => id (by
    show oS p e below s₁ (mkF m 0 #[iv p0] []) _
    refine XS.iloadN X0.here hx rfl (hb hby d20_0) rfl ?_
    refine XT.sipushV X0.here hx rfl (159 : Int32) (hb hby d20_1) (by decide) ?_
    exact k)
  by_cases hc4_2 : (159 : Int32) < p0
  · have S3 : ∀ t, oS p e below s₁ (mkF m 24 #[iv p0] [(.int 0)]) t → oS p e below s₁ (mkF m 0 #[iv p0] []) t := fun t k => S1 t (by
      show oS p e below s₁ (mkF m 4 #[iv p0] [(.int 159), (.int p0)]) _
      refine XS.icmpYes X0.here hx rfl (pc0 := 4) (pc' := 23) rfl (hb hby d20_4) rfl (XT.ii_gt_t hc4_2) (by decide) (by decide) ?_
      refine XT.iconstV X0.here hx rfl (0 : Int32) (hb hby d20_23) (by decide) ?_
      exact k)
    obtain ⟨fs, hr, hrun, hended, hW, hsame⟩ := X0.leave (v := some (.int 0)) (fun h => by rw [Bd.returns] at h; cases h)
    refine ⟨_, _, pre0 _ (S3 _ ?_), hrun, hended, _, _, rfl, ?_, ⟨_, rfl⟩, hW, hsame.mono (by decide) (by decide)⟩
    · exact retN X0 hx (t := .boolean) Bd.returns (by simp) (hb hby d20_24) hr
    · show QrmIsoI Z p0 h0 n0 _ s₁.heap _
      rw [e0]
      exact ⟨by simp [own_iso, hc4_2], N0, rfl⟩
  · have S4 : ∀ t, oS p e below s₁ (mkF m 10 #[iv p0] [(.int 127), (.int p0)]) t → oS p e below s₁ (mkF m 0 #[iv p0] []) t := fun t k => S1 t (by
      show oS p e below s₁ (mkF m 4 #[iv p0] [(.int 159), (.int p0)]) _
      refine XS.icmpNo X0.here hx rfl (hb hby d20_4) rfl (XT.ii_gt_f hc4_2) ?_
      refine XS.iloadN X0.here hx rfl (hb hby d20_7) rfl ?_
      refine XT.bipushV X0.here hx rfl (127 : Int32) (hb hby d20_8) (by decide) ?_
      exact k)
    by_cases hc10_5 : p0 < (127 : Int32)
    · have S6 : ∀ t, oS p e below s₁ (mkF m 16 #[iv p0] [(.int (XT.ushr p0 (5 : Int32)))]) t → oS p e below s₁ (mkF m 0 #[iv p0] []) t := fun t k => S4 t (by
        show oS p e below s₁ (mkF m 10 #[iv p0] [(.int 127), (.int p0)]) _
        refine XS.icmpNo X0.here hx rfl (hb hby d20_10) rfl (XT.ii_ge_f hc10_5) ?_
        refine XS.iloadN X0.here hx rfl (hb hby d20_13) rfl ?_
        refine XT.iconstV X0.here hx rfl (5 : Int32) (hb hby d20_14) (by decide) ?_
        refine XT.iushr X0.here hx rfl (hb hby d20_15) rfl ?_
        exact k)
      by_cases hc16_7 : (XT.ushr p0 (5 : Int32)) = (0 : Int32)
      · have S8 : ∀ t, oS p e below s₁ (mkF m 24 #[iv p0] [(.int 1)]) t → oS p e below s₁ (mkF m 0 #[iv p0] []) t := fun t k => S6 t (by
          show oS p e below s₁ (mkF m 16 #[iv p0] [(.int (XT.ushr p0 (5 : Int32)))]) _
          refine XS.ifNo X0.here hx rfl (hb hby d20_16) rfl (XT.i0_ne_f hc16_7) ?_
          refine XT.iconstV X0.here hx rfl (1 : Int32) (hb hby d20_19) (by decide) ?_
          refine XS.goto X0.here hx rfl (pc0 := 20) (pc' := 24) rfl (hb hby d20_20) (by decide) (by decide) ?_
          exact k)
        obtain ⟨fs, hr, hrun, hended, hW, hsame⟩ := X0.leave (v := some (.int 1)) (fun h => by rw [Bd.returns] at h; cases h)
        refine ⟨_, _, pre0 _ (S8 _ ?_), hrun, hended, _, _, rfl, ?_, ⟨_, rfl⟩, hW, hsame.mono (by decide) (by decide)⟩
        · exact retN X0 hx (t := .boolean) Bd.returns (by simp) (hb hby d20_24) hr
        · show QrmIsoI Z p0 h0 n0 _ s₁.heap _
          rw [e0]
          exact ⟨by simp [own_iso, hc4_2, hc10_5, hc16_7], N0, rfl⟩
      · have S9 : ∀ t, oS p e below s₁ (mkF m 24 #[iv p0] [(.int 0)]) t → oS p e below s₁ (mkF m 0 #[iv p0] []) t := fun t k => S6 t (by
          show oS p e below s₁ (mkF m 16 #[iv p0] [(.int (XT.ushr p0 (5 : Int32)))]) _
          refine XS.ifYes X0.here hx rfl (pc0 := 16) (pc' := 23) rfl (hb hby d20_16) rfl (XT.i0_ne_t hc16_7) (by decide) (by decide) ?_
          refine XT.iconstV X0.here hx rfl (0 : Int32) (hb hby d20_23) (by decide) ?_
          exact k)
        obtain ⟨fs, hr, hrun, hended, hW, hsame⟩ := X0.leave (v := some (.int 0)) (fun h => by rw [Bd.returns] at h; cases h)
        refine ⟨_, _, pre0 _ (S9 _ ?_), hrun, hended, _, _, rfl, ?_, ⟨_, rfl⟩, hW, hsame.mono (by decide) (by decide)⟩
        · exact retN X0 hx (t := .boolean) Bd.returns (by simp) (hb hby d20_24) hr
        · show QrmIsoI Z p0 h0 n0 _ s₁.heap _
          rw [e0]
          exact ⟨by simp [own_iso, hc4_2, hc10_5, hc16_7], N0, rfl⟩
    · have S10 : ∀ t, oS p e below s₁ (mkF m 24 #[iv p0] [(.int 1)]) t → oS p e below s₁ (mkF m 0 #[iv p0] []) t := fun t k => S4 t (by
        show oS p e below s₁ (mkF m 10 #[iv p0] [(.int 127), (.int p0)]) _
        refine XS.icmpYes X0.here hx rfl (pc0 := 10) (pc' := 19) rfl (hb hby d20_10) rfl (XT.ii_ge_t hc10_5) (by decide) (by decide) ?_
        refine XT.iconstV X0.here hx rfl (1 : Int32) (hb hby d20_19) (by decide) ?_
        refine XS.goto X0.here hx rfl (pc0 := 20) (pc' := 24) rfl (hb hby d20_20) (by decide) (by decide) ?_
        exact k)
      obtain ⟨fs, hr, hrun, hended, hW, hsame⟩ := X0.leave (v := some (.int 1)) (fun h => by rw [Bd.returns] at h; cases h)
      refine ⟨_, _, pre0 _ (S10 _ ?_), hrun, hended, _, _, rfl, ?_, ⟨_, rfl⟩, hW, hsame.mono (by decide) (by decide)⟩
      · exact retN X0 hx (t := .boolean) Bd.returns (by simp) (hb hby d20_24) hr
      · show QrmIsoI Z p0 h0 n0 _ s₁.heap _
        rw [e0]
        exact ⟨by simp [own_iso, hc4_2, hc10_5], N0, rfl⟩
theorem d19_0 : decode jdk_89_method_88_code 0 = .ok (.iload_n 0, 1) := by decide +kernel
theorem d19_1 : decode jdk_89_method_88_code 1 = .ok (.invokestatic 266, 3) := by decide +kernel
theorem d19_4 : decode jdk_89_method_88_code 4 = .ok (.ireturn, 1) := by decide +kernel
theorem pd__I_Z : parseMethodDescriptor "(I)Z" = some ⟨[.int], some .boolean⟩ := by decide +kernel
def QrmIsoC (Z : State) (p0 : Int32) (h0 : Heap) (n0 : Nat) (v : Option Value) (h : Heap) (L : List Loc) : Prop := v = some (.int (own_iso p0)) ∧ Fr n0 L ∧ h = h0
set_option maxRecDepth 65536 in
set_option maxHeartbeats 40000000 in
theorem rmIsoC (l : Launch) (Z : State) (av0 : Array Value) (hw : ∀ d ∈ tables_1, d.before av0 Z = true) (ws : List Jvm.Cond) (p0 : Int32) (h0 : Heap) (n0 : Nat) (Z0 : n0 ≤ h0.size)  :
    own_Met l mN1 jdk_89_method_88_code 1 (some .boolean) ws ({ frames := 1, cells := 0, slots := 0, locals := 12 } : Room) #[(.int p0)] Z h0 (QrmIsoC Z p0 h0 n0) := by
  refine MetFree.of_bodySF (plainFor_of_name pn_Character) hisR ?_
  intro p e s m args below meth c s₁ Bd hml0 hP hK
  obtain ⟨rfl, hZ, hh⟩ := hP
  have hml : c.maxLocals = 1 := hml0
  obtain ⟨hx, hby, hown, hnm, X0, e0⟩ := own_start Bd hml0 hh
  have N0 := Fr.nil n0
  have pre0 : ∀ t, oS p e below s₁ (mkF m 0 #[iv p0] []) t → Steps p.tables e below (s₁.setTop (entryFrame m #[(.int p0)] 1)) t := fun t k => castTop (by first | (simp [entryFrame, mkF, argsToLocals, Value.category]; done) | rfl) k
  obtain ⟨_, T1, Lc1, X1, hQ1, st1⟩ := own_callS (W := 0) (y := mN0) X0 hx hZ hown (hw _ (own_w 86 rfl)) (hw _ (own_w 87 rfl)) (hw _ (own_w 84 rfl)) (hw _ (own_w 88 rfl)) (by decide) (rmIsoI l Z av0 hw [] p0 h0 n0 Z0 ) (by decide) (by decide) (g := (mkF m 1 #[iv p0] [(.int p0)])) rfl (by rw [hml]; rfl) (argsL := [(.int p0)]) (rest := []) (lenOf pd__I_Z rfl) rfl (hb hby d19_1) rfl e0 (by decide : 0 + 0 ≤ _) (by decide : 0 + 0 ≤ _)
  obtain ⟨rfl, N1q, hh1⟩ := hQ1
  have N1 := Fr.app N0 N1q
  have e1 : T1.heap = h0 := hh1
  have S2 : ∀ t, oS p e below T1 (mkF m 4 #[iv p0] [(.int (own_iso p0))]) t → oS p e below s₁ (mkF m 0 #[iv p0] []) t := fun t k => id (by
    show oS p e below s₁ (mkF m 0 #[iv p0] []) _
    refine XS.iloadN X0.here hx rfl (hb hby d19_0) rfl ?_
    refine st1 _ ?_
    exact k)
  obtain ⟨fs, hr, hrun, hended, hW, hsame⟩ := X1.leave (v := some (.int (nar .boolean (own_iso p0)))) (fun h => by rw [Bd.returns] at h; cases h)
  refine ⟨_, _, pre0 _ (S2 _ ?_), hrun, hended, _, _, rfl, ?_, ⟨_, rfl⟩, hW, hsame.mono (by decide) (by decide)⟩
  · exact retN X1 hx (t := .boolean) Bd.returns (by simp) (hb hby d19_4) hr
  · show QrmIsoC Z p0 h0 n0 _ T1.heap _
    rw [e1]
    exact ⟨by rw [own_isob], N1, rfl⟩
theorem d21_0 : decode method_2_code 0 = .ok (.iload_n 0, 1) := by decide +kernel
theorem d21_1 : decode method_2_code 1 = .ok (.bipush 9, 2) := by decide +kernel
theorem d21_3 : decode method_2_code 3 = .ok (.if_icmp .ne 5, 3) := by decide +kernel
theorem d21_6 : decode method_2_code 6 = .ok (.iconst 1, 1) := by decide +kernel
theorem d21_7 : decode method_2_code 7 = .ok (.ireturn, 1) := by decide +kernel
theorem d21_8 : decode method_2_code 8 = .ok (.iload_n 0, 1) := by decide +kernel
theorem d21_9 : decode method_2_code 9 = .ok (.bipush 32, 2) := by decide +kernel
theorem d21_11 : decode method_2_code 11 = .ok (.if_icmp .ge 5, 3) := by decide +kernel
theorem d21_14 : decode method_2_code 14 = .ok (.iconst 0, 1) := by decide +kernel
theorem d21_15 : decode method_2_code 15 = .ok (.ireturn, 1) := by decide +kernel
theorem d21_16 : decode method_2_code 16 = .ok (.iload_n 0, 1) := by decide +kernel
theorem d21_17 : decode method_2_code 17 = .ok (.bipush 127, 2) := by decide +kernel
theorem d21_19 : decode method_2_code 19 = .ok (.if_icmp .lt 12, 3) := by decide +kernel
theorem d21_22 : decode method_2_code 22 = .ok (.iload_n 0, 1) := by decide +kernel
theorem d21_23 : decode method_2_code 23 = .ok (.sipush 159, 3) := by decide +kernel
theorem d21_26 : decode method_2_code 26 = .ok (.if_icmp .gt 5, 3) := by decide +kernel
theorem d21_29 : decode method_2_code 29 = .ok (.iconst 0, 1) := by decide +kernel
theorem d21_30 : decode method_2_code 30 = .ok (.ireturn, 1) := by decide +kernel
theorem d21_31 : decode method_2_code 31 = .ok (.iconst 1, 1) := by decide +kernel
theorem d21_32 : decode method_2_code 32 = .ok (.ireturn, 1) := by decide +kernel
theorem pn_HttpFieldsIsFieldValuePinLaw : plainName "com/example/headwater/headwater/core/HttpFieldsIsFieldValuePinLaw" = true := by first | (simp [plainName, overriddenIn]; done) | decide +kernel
def QrmOk (Z : State) (p0 : Int32) (h0 : Heap) (n0 : Nat) (v : Option Value) (h : Heap) (L : List Loc) : Prop := v = some (.int (own_ok p0)) ∧ Fr n0 L ∧ h = h0
set_option maxRecDepth 65536 in
set_option maxHeartbeats 40000000 in
theorem rmOk (l : Launch) (Z : State) (av0 : Array Value) (hw : ∀ d ∈ tables_1, d.before av0 Z = true) (ws : List Jvm.Cond) (p0 : Int32) (h0 : Heap) (n0 : Nat) (Z0 : n0 ≤ h0.size)  :
    own_Met l mN2 method_2_code 1 (some .boolean) ws ({ frames := 0, cells := 0, slots := 0, locals := 0 } : Room) #[(.int p0)] Z h0 (QrmOk Z p0 h0 n0) := by
  refine MetFree.of_bodySF (plainFor_of_name pn_HttpFieldsIsFieldValuePinLaw) hisR ?_
  intro p e s m args below meth c s₁ Bd hml0 hP hK
  obtain ⟨rfl, hZ, hh⟩ := hP
  have hml : c.maxLocals = 1 := hml0
  obtain ⟨hx, hby, hown, hnm, X0, e0⟩ := own_start Bd hml0 hh
  have N0 := Fr.nil n0
  have pre0 : ∀ t, oS p e below s₁ (mkF m 0 #[iv p0] []) t → Steps p.tables e below (s₁.setTop (entryFrame m #[(.int p0)] 1)) t := fun t k => castTop (by first | (simp [entryFrame, mkF, argsToLocals, Value.category]; done) | rfl) k
  have S1 : ∀ t, oS p e below s₁ (mkF m 3 #[iv p0] [(.int 9), (.int p0)]) t → oS p e below s₁ (mkF m 0 #[iv p0] []) t := fun t k => id (by
    show oS p e below s₁ (mkF m 0 #[iv p0] []) _
    refine XS.iloadN X0.here hx rfl (hb hby d21_0) rfl ?_
    refine XT.bipushV X0.here hx rfl (9 : Int32) (hb hby d21_1) (by decide) ?_
    exact k)
  by_cases hc3_2 : p0 = (9 : Int32)
  · have S3 : ∀ t, oS p e below s₁ (mkF m 7 #[iv p0] [(.int 1)]) t → oS p e below s₁ (mkF m 0 #[iv p0] []) t := fun t k => S1 t (by
      show oS p e below s₁ (mkF m 3 #[iv p0] [(.int 9), (.int p0)]) _
      refine XS.icmpNo X0.here hx rfl (hb hby d21_3) rfl (XT.ii_ne_f hc3_2) ?_
      refine XT.iconstV X0.here hx rfl (1 : Int32) (hb hby d21_6) (by decide) ?_
      exact k)
    obtain ⟨fs, hr, hrun, hended, hW, hsame⟩ := X0.leave (v := some (.int 1)) (fun h => by rw [Bd.returns] at h; cases h)
    refine ⟨_, _, pre0 _ (S3 _ ?_), hrun, hended, _, _, rfl, ?_, ⟨_, rfl⟩, hW, hsame.mono (by decide) (by decide)⟩
    · exact retN X0 hx (t := .boolean) Bd.returns (by simp) (hb hby d21_7) hr
    · show QrmOk Z p0 h0 n0 _ s₁.heap _
      rw [e0]
      exact ⟨by simp [own_ok, hc3_2], N0, rfl⟩
  · have S4 : ∀ t, oS p e below s₁ (mkF m 11 #[iv p0] [(.int 32), (.int p0)]) t → oS p e below s₁ (mkF m 0 #[iv p0] []) t := fun t k => S1 t (by
      show oS p e below s₁ (mkF m 3 #[iv p0] [(.int 9), (.int p0)]) _
      refine XS.icmpYes X0.here hx rfl (pc0 := 3) (pc' := 8) rfl (hb hby d21_3) rfl (XT.ii_ne_t hc3_2) (by decide) (by decide) ?_
      refine XS.iloadN X0.here hx rfl (hb hby d21_8) rfl ?_
      refine XT.bipushV X0.here hx rfl (32 : Int32) (hb hby d21_9) (by decide) ?_
      exact k)
    by_cases hc11_5 : p0 < (32 : Int32)
    · have S6 : ∀ t, oS p e below s₁ (mkF m 15 #[iv p0] [(.int 0)]) t → oS p e below s₁ (mkF m 0 #[iv p0] []) t := fun t k => S4 t (by
        show oS p e below s₁ (mkF m 11 #[iv p0] [(.int 32), (.int p0)]) _
        refine XS.icmpNo X0.here hx rfl (hb hby d21_11) rfl (XT.ii_ge_f hc11_5) ?_
        refine XT.iconstV X0.here hx rfl (0 : Int32) (hb hby d21_14) (by decide) ?_
        exact k)
      obtain ⟨fs, hr, hrun, hended, hW, hsame⟩ := X0.leave (v := some (.int 0)) (fun h => by rw [Bd.returns] at h; cases h)
      refine ⟨_, _, pre0 _ (S6 _ ?_), hrun, hended, _, _, rfl, ?_, ⟨_, rfl⟩, hW, hsame.mono (by decide) (by decide)⟩
      · exact retN X0 hx (t := .boolean) Bd.returns (by simp) (hb hby d21_15) hr
      · show QrmOk Z p0 h0 n0 _ s₁.heap _
        rw [e0]
        exact ⟨by simp [own_ok, hc3_2, hc11_5], N0, rfl⟩
    · have S7 : ∀ t, oS p e below s₁ (mkF m 19 #[iv p0] [(.int 127), (.int p0)]) t → oS p e below s₁ (mkF m 0 #[iv p0] []) t := fun t k => S4 t (by
        show oS p e below s₁ (mkF m 11 #[iv p0] [(.int 32), (.int p0)]) _
        refine XS.icmpYes X0.here hx rfl (pc0 := 11) (pc' := 16) rfl (hb hby d21_11) rfl (XT.ii_ge_t hc11_5) (by decide) (by decide) ?_
        refine XS.iloadN X0.here hx rfl (hb hby d21_16) rfl ?_
        refine XT.bipushV X0.here hx rfl (127 : Int32) (hb hby d21_17) (by decide) ?_
        exact k)
      by_cases hc19_8 : p0 < (127 : Int32)
      · have S9 : ∀ t, oS p e below s₁ (mkF m 32 #[iv p0] [(.int 1)]) t → oS p e below s₁ (mkF m 0 #[iv p0] []) t := fun t k => S7 t (by
          show oS p e below s₁ (mkF m 19 #[iv p0] [(.int 127), (.int p0)]) _
          refine XS.icmpYes X0.here hx rfl (pc0 := 19) (pc' := 31) rfl (hb hby d21_19) rfl (XT.ii_lt_t hc19_8) (by decide) (by decide) ?_
          refine XT.iconstV X0.here hx rfl (1 : Int32) (hb hby d21_31) (by decide) ?_
          exact k)
        obtain ⟨fs, hr, hrun, hended, hW, hsame⟩ := X0.leave (v := some (.int 1)) (fun h => by rw [Bd.returns] at h; cases h)
        refine ⟨_, _, pre0 _ (S9 _ ?_), hrun, hended, _, _, rfl, ?_, ⟨_, rfl⟩, hW, hsame.mono (by decide) (by decide)⟩
        · exact retN X0 hx (t := .boolean) Bd.returns (by simp) (hb hby d21_32) hr
        · show QrmOk Z p0 h0 n0 _ s₁.heap _
          rw [e0]
          exact ⟨by simp [own_ok, hc3_2, hc11_5, hc19_8], N0, rfl⟩
      · have S10 : ∀ t, oS p e below s₁ (mkF m 26 #[iv p0] [(.int 159), (.int p0)]) t → oS p e below s₁ (mkF m 0 #[iv p0] []) t := fun t k => S7 t (by
          show oS p e below s₁ (mkF m 19 #[iv p0] [(.int 127), (.int p0)]) _
          refine XS.icmpNo X0.here hx rfl (hb hby d21_19) rfl (XT.ii_lt_f hc19_8) ?_
          refine XS.iloadN X0.here hx rfl (hb hby d21_22) rfl ?_
          refine XT.sipushV X0.here hx rfl (159 : Int32) (hb hby d21_23) (by decide) ?_
          exact k)
        by_cases hc26_11 : (159 : Int32) < p0
        · have S12 : ∀ t, oS p e below s₁ (mkF m 32 #[iv p0] [(.int 1)]) t → oS p e below s₁ (mkF m 0 #[iv p0] []) t := fun t k => S10 t (by
            show oS p e below s₁ (mkF m 26 #[iv p0] [(.int 159), (.int p0)]) _
            refine XS.icmpYes X0.here hx rfl (pc0 := 26) (pc' := 31) rfl (hb hby d21_26) rfl (XT.ii_gt_t hc26_11) (by decide) (by decide) ?_
            refine XT.iconstV X0.here hx rfl (1 : Int32) (hb hby d21_31) (by decide) ?_
            exact k)
          obtain ⟨fs, hr, hrun, hended, hW, hsame⟩ := X0.leave (v := some (.int 1)) (fun h => by rw [Bd.returns] at h; cases h)
          refine ⟨_, _, pre0 _ (S12 _ ?_), hrun, hended, _, _, rfl, ?_, ⟨_, rfl⟩, hW, hsame.mono (by decide) (by decide)⟩
          · exact retN X0 hx (t := .boolean) Bd.returns (by simp) (hb hby d21_32) hr
          · show QrmOk Z p0 h0 n0 _ s₁.heap _
            rw [e0]
            exact ⟨by simp [own_ok, hc3_2, hc11_5, hc19_8, hc26_11], N0, rfl⟩
        · have S13 : ∀ t, oS p e below s₁ (mkF m 30 #[iv p0] [(.int 0)]) t → oS p e below s₁ (mkF m 0 #[iv p0] []) t := fun t k => S10 t (by
            show oS p e below s₁ (mkF m 26 #[iv p0] [(.int 159), (.int p0)]) _
            refine XS.icmpNo X0.here hx rfl (hb hby d21_26) rfl (XT.ii_gt_f hc26_11) ?_
            refine XT.iconstV X0.here hx rfl (0 : Int32) (hb hby d21_29) (by decide) ?_
            exact k)
          obtain ⟨fs, hr, hrun, hended, hW, hsame⟩ := X0.leave (v := some (.int 0)) (fun h => by rw [Bd.returns] at h; cases h)
          refine ⟨_, _, pre0 _ (S13 _ ?_), hrun, hended, _, _, rfl, ?_, ⟨_, rfl⟩, hW, hsame.mono (by decide) (by decide)⟩
          · exact retN X0 hx (t := .boolean) Bd.returns (by simp) (hb hby d21_30) hr
          · show QrmOk Z p0 h0 n0 _ s₁.heap _
            rw [e0]
            exact ⟨by simp [own_ok, hc3_2, hc11_5, hc19_8, hc26_11], N0, rfl⟩
theorem d2_0 : decode jdk_42_method_149_code 0 = .ok (.aload_n 0, 1) := by decide +kernel
theorem d2_1 : decode jdk_42_method_149_code 1 = .ok (.invokespecial 1, 3) := by decide +kernel
theorem d2_4 : decode jdk_42_method_149_code 4 = .ok (.iload_n 3, 1) := by decide +kernel
theorem d2_5 : decode jdk_42_method_149_code 5 = .ok (.ifCond .ne 22, 3) := by decide +kernel
theorem d2_8 : decode jdk_42_method_149_code 8 = .ok (.aload_n 0, 1) := by decide +kernel
theorem d2_9 : decode jdk_42_method_149_code 9 = .ok (.ldc 7, 2) := by decide +kernel
theorem d2_11 : decode jdk_42_method_149_code 11 = .ok (.getfield 9, 3) := by decide +kernel
theorem d2_14 : decode jdk_42_method_149_code 14 = .ok (.putfield 9, 3) := by decide +kernel
theorem d2_17 : decode jdk_42_method_149_code 17 = .ok (.aload_n 0, 1) := by decide +kernel
theorem d2_18 : decode jdk_42_method_149_code 18 = .ok (.ldc 7, 2) := by decide +kernel
theorem d2_20 : decode jdk_42_method_149_code 20 = .ok (.getfield 15, 3) := by decide +kernel
theorem d2_23 : decode jdk_42_method_149_code 23 = .ok (.putfield 15, 3) := by decide +kernel
theorem d2_26 : decode jdk_42_method_149_code 26 = .ok (.return_, 1) := by decide +kernel
theorem pn_String : plainName "java/lang/String" = true := by first | (simp [plainName, overriddenIn]; done) | decide +kernel
def QrmSi4_e (Z : State) (a0 : Addr) (a1 : Addr) (ka : ClassId) (h0 : Heap) (n0 : Nat) (v : Option Value) (h : Heap) (L : List Loc) : Prop := v = none ∧ Fr n0 L ∧ Keep h0 h [a0] ∧ Fld Z h a0 "java/lang/String" "coder" "B" (.int (0 : Int32)) ∧ ∃ (b : Addr) (k : ClassId), Fld Z h a0 "java/lang/String" "value" "[B" (.ref b) ∧ Arv Z h b k .byte (0 : Int32) [] (.int 0)
set_option maxRecDepth 65536 in
set_option maxHeartbeats 40000000 in
theorem rmSi4_e (l : Launch) (Z : State) (av0 : Array Value) (hw : ∀ d ∈ tables_1, d.before av0 Z = true) (ws : List Jvm.Cond) (a0 : Addr) (a1 : Addr) (ka : ClassId) (h0 : Heap) (n0 : Nat) (Z0 : n0 ≤ h0.size) (hE : Exa Z h0 a0 "java/lang/String") (hV : Fld Z h0 a0 "java/lang/String" "value" "[B" .null) (hC : Fld Z h0 a0 "java/lang/String" "coder" "B" (.int (0 : Int32))) (hge : n0 ≤ a0) (hA : Arv Z h0 a1 ka .char (0 : Int32) [] (.int (0 : Int32))) (hkp : ∀ (b : Addr) (cl : Cell), Z.heap[b]? = some cl → h0[b]? = some cl) (hcH : Jvm.Lit.constHeld Z "java/lang/String" 7) (hcw : Jvm.Lit.compactW.before av0 Z = true) :
    MetFree l mN3 (head1 (Jvm.Cond.code mN3 jdk_42_method_149_code 6 none :: ws) ({ frames := 1, cells := 2, slots := 4, locals := 12 } : Room)) (fun aU U => aU = #[(.ref a0), (.ref a1), (.int 0), (.int 0), .null] ∧ Z.Warmed39 U.vm ∧ U.heap = h0 ∧ IB Z U.vm []) (fun _ _ _ _ _ => True) (fun _ U oU U' => ∃ vU LU, oU = .returned vU ∧ QrmSi4_e Z a0 a1 ka h0 n0 vU U'.heap LU ∧ ReturnedEndW U oU U' LU ({ frames := 1, cells := 2, slots := 4, locals := 12 } : Room).cells ({ frames := 1, cells := 2, slots := 4, locals := 12 } : Room).slots) := by
  refine MetFree.of_bodySF (plainFor_of_name pn_String) hisR ?_
  intro p e s m args below meth c s₁ Bd hml0 hP hK
  obtain ⟨rfl, hZ, hh, hI⟩ := hP
  have hml : c.maxLocals = 6 := hml0
  obtain ⟨hx, hby, hown, hnm, X0, e0⟩ := own_start Bd hml0 hh
  have N0 := Fr.nil n0
  have pre0 : ∀ t, oS p e below s₁ (mkF m 0 #[rv a0, rv a1, iv 0, iv 0, .val .null, .unset] []) t → Steps p.tables e below (s₁.setTop (entryFrame m #[(.ref a0), (.ref a1), (.int 0), (.int 0), .null] 6)) t := fun t k => castTop (by first | (simp [entryFrame, mkF, argsToLocals, Value.category]; done) | rfl) k
  obtain ⟨T1, X1, e1, st1⟩ := initO X0 hx hZ hown (hw _ (own_w 11 rfl)) (hw _ (own_w 12 rfl)) (hw _ (own_w 13 rfl)) e0 (g := (mkF m 1 #[rv a0, rv a1, iv 0, iv 0, .val .null, .unset] [(.ref a0)])) rfl (by rw [hml]; rfl) rfl (hb hby d2_1) (by decide) (W := 0) (by show 2 * 0 + _ ≤ _; exact Nat.le_of_eq rfl) (by decide)
  have S3 : ∀ t, oS p e below T1 (mkF m 9 #[rv a0, rv a1, iv 0, iv 0, .val .null, .unset] [(.ref a0)]) t → oS p e below s₁ (mkF m 0 #[rv a0, rv a1, iv 0, iv 0, .val .null, .unset] []) t := fun t k => id (by
    show oS p e below s₁ (mkF m 0 #[rv a0, rv a1, iv 0, iv 0, .val .null, .unset] []) _
    refine XS.aloadN X0.here hx rfl (hb hby d2_0) rfl rfl ?_
    refine st1 _ ?_
    refine XS.iloadN X1.here hx rfl (hb hby d2_4) rfl ?_
    refine XS.ifNo X1.here hx rfl (hb hby d2_5) rfl (XT.i0_ne_f (by decide)) ?_
    refine XS.aloadN X1.here hx rfl (hb hby d2_8) rfl rfl ?_
    exact k)
  obtain ⟨a2, T2, h2, ks2, b2, k2, X2, e2, E2, hS2, hk2, hZ, hown, Ea2, Fc2, Fv2, Av2, la2, lb2, I2, Li2, st2⟩ := ldcSVL (s := s) (vm0 := s.vm) (show Stand p l e _ (s.setVm s.vm) m _ below meth c _ _ _ _ from X1) hx hZ hown (hw _ (own_w 14 rfl)) (own_wS hw) e1 (k0 := 0) ((State.WarmedH.refl s).since 0) (Nat.zero_le _) (Fr.nil _) (fun b cl q => by rw [hh]; exact hkp b cl q) hI (by simp) hcH hcw (vs := []) (z := (0 : Int32)) ⟨by decide, rfl⟩ (by decide) rfl (g := (mkF m 9 #[rv a0, rv a1, iv 0, iv 0, .val .null, .unset] [(.ref a0)])) rfl (hb hby d2_9) (n := 0) (by decide) (by decide) (by decide) (by decide)
  have Z2 : n0 ≤ h2.size := Nat.le_trans Z0 E2.1
  have K2 : Keep h0 h2 [a0] := (Keep.refl h0 [a0]).ext E2
  have f4 := (hV.ext E2)
  have ne_a0_a2 : a0 ≠ a2 := Fld.ne f4 Fv2 (by nofun)
  have f5 := (hE.ext E2)
  have ne_a0_b2 : a0 ≠ b2 := f5.neArv Av2 (hw _ (own_w 1 rfl))
  obtain ⟨T6, X6, e6, st6⟩ := getF X2 hx hZ hown (host := "") (Or.inl (hw _ (own_w 20 rfl))) Via.refl e2 Fv2 (g := (mkF m 11 #[rv a0, rv a1, iv 0, iv 0, .val .null, .unset] [(.ref a2), (.ref a0)])) rfl rfl (hb hby d2_11)
  obtain ⟨T7, h7, X7, e7, W7, st7⟩ := putF X6 hx hZ hown (host := "") (Or.inl (hw _ (own_w 20 rfl))) Via.refl e6 f4 f5 (Or.inr ⟨(hw _ (own_w 16 rfl)), rfl, hnm⟩) (hw _ (own_w 1 rfl)) (ty := (.array .byte)) (by decide) rfl rfl (g := (mkF m 14 #[rv a0, rv a1, iv 0, iv 0, .val .null, .unset] [(.ref b2), (.ref a0)])) rfl rfl (hb hby d2_14)
  have N7 := Fr.snoc X7 N0 hge
  have Z7 : n0 ≤ h7.size := Nat.le_trans Z2 (Nat.le_of_eq W7.size.symm)
  have K7 : Keep h0 h7 [a0] := K2.wr W7 (Or.inl (List.mem_of_getElem? (i := 0) rfl))
  have Fw7 := f4.same W7
  have f9 := (Fc2.other W7 (Or.inl (Ne.symm ne_a0_a2)))
  obtain ⟨T10, X10, e10, st10⟩ := getF X7 hx hZ hown (host := "") (Or.inl (hw _ (own_w 21 rfl))) Via.refl e7 f9 (g := (mkF m 20 #[rv a0, rv a1, iv 0, iv 0, .val .null, .unset] [(.ref a2), (.ref a0)])) rfl rfl (hb hby d2_20)
  have f11 := ((hC.ext E2).other W7 (Or.inr (slot_ne (Or.inr (hw _ (own_w 17 rfl))) (Or.inr (hw _ (own_w 16 rfl))) (by decide) (t := .byte) (t' := (.array .byte)) (by decide) (by decide))))
  have f12 := (f5.wr W7)
  obtain ⟨T13, h13, X13, e13, W13, st13⟩ := putFN X10 hx hZ hown (hw _ (own_w 21 rfl)) Via.refl e10 f11 f12 (Or.inr ⟨(hw _ (own_w 17 rfl)), rfl, hnm⟩) (hw _ (own_w 1 rfl)) (ty := .byte) (v' := (.int 0)) (by decide) rfl rfl (g := (mkF m 23 #[rv a0, rv a1, iv 0, iv 0, .val .null, .unset] [(.int 0), (.ref a0)])) rfl rfl (hb hby d2_23)
  have N13 := Fr.snoc X13 N7 hge
  have Z13 : n0 ≤ h13.size := Nat.le_trans Z7 (Nat.le_of_eq W13.size.symm)
  have K13 : Keep h0 h13 [a0] := K7.wr W13 (Or.inl (List.mem_of_getElem? (i := 0) rfl))
  have Fw13 := f11.same W13
  have S14 : ∀ t, oS p e below T13 (mkF m 26 #[rv a0, rv a1, iv 0, iv 0, .val .null, .unset] []) t → oS p e below s₁ (mkF m 0 #[rv a0, rv a1, iv 0, iv 0, .val .null, .unset] []) t := fun t k => S3 t (by
    show oS p e below T1 (mkF m 9 #[rv a0, rv a1, iv 0, iv 0, .val .null, .unset] [(.ref a0)]) _
    refine st2 _ ?_
    refine st6 _ ?_
    refine st7 _ ?_
    refine XS.aloadN X7.here hx rfl (hb hby d2_17) rfl rfl ?_
    refine ldcAgain X7 hx hZ hown (hw _ (own_w 14 rfl)) Li2 (g := (mkF m 18 #[rv a0, rv a1, iv 0, iv 0, .val .null, .unset] [(.ref a0)])) rfl (hb hby d2_18) _ ?_
    refine st10 _ ?_
    refine st13 _ ?_
    exact k)
  obtain ⟨fs, hr, hrun, hended, hEnd⟩ := X13.leaveW hS2 (by rw [e13]; exact (Nat.le_trans (Nat.le_trans hk2 (Nat.le_of_eq W7.size.symm)) (Nat.le_of_eq W13.size.symm))) (v := none) (fun _ => rfl)
  refine ⟨_, _, pre0 _ (S14 _ ?_), hrun, hended, _, _, rfl, ?_, hEnd.1, hEnd.2.1, hEnd.2.2.1, hEnd.2.2.2.mono (by decide) (by decide)⟩
  · exact X13.returnOut hx Bd.returns (hb hby d2_26) hr
  have f15 := (Fw7.other W13 (Or.inr (slot_ne (Or.inr (hw _ (own_w 16 rfl))) (Or.inr (hw _ (own_w 17 rfl))) (by decide) (t := (.array .byte)) (t' := .byte) (by decide) (by decide))))
  have f16 := ((Av2.other W7 (Ne.symm ne_a0_b2)).other W13 (Ne.symm ne_a0_b2))
  · show QrmSi4_e Z a0 a1 ka h0 n0 _ T13.heap _
    rw [e13]
    exact ⟨rfl, N13, K13, Fw13, b2, _, f15, f16⟩
theorem d1_0 : decode jdk_42_method_3_code 0 = .ok (.aload_n 0, 1) := by decide +kernel
theorem d1_1 : decode jdk_42_method_3_code 1 = .ok (.aload_n 1, 1) := by decide +kernel
theorem d1_2 : decode jdk_42_method_3_code 2 = .ok (.iconst 0, 1) := by decide +kernel
theorem d1_3 : decode jdk_42_method_3_code 3 = .ok (.aload_n 1, 1) := by decide +kernel
theorem d1_4 : decode jdk_42_method_3_code 4 = .ok (.arraylength, 1) := by decide +kernel
theorem d1_5 : decode jdk_42_method_3_code 5 = .ok (.aconst_null, 1) := by decide +kernel
theorem d1_6 : decode jdk_42_method_3_code 6 = .ok (.invokespecial 27, 3) := by decide +kernel
theorem d1_9 : decode jdk_42_method_3_code 9 = .ok (.return_, 1) := by decide +kernel
theorem pd__CIILjava_lang_Void_V : parseMethodDescriptor "([CIILjava/lang/Void;)V" = some ⟨[(.array .char), .int, .int, (.object "java/lang/Void")], none⟩ := by decide +kernel
def QrmSi2_e (Z : State) (a0 : Addr) (a1 : Addr) (ka : ClassId) (h0 : Heap) (n0 : Nat) (v : Option Value) (h : Heap) (L : List Loc) : Prop := v = none ∧ Fr n0 L ∧ Keep h0 h [a0] ∧ Fld Z h a0 "java/lang/String" "coder" "B" (.int (0 : Int32)) ∧ ∃ (b : Addr) (k : ClassId), Fld Z h a0 "java/lang/String" "value" "[B" (.ref b) ∧ Arv Z h b k .byte (0 : Int32) [] (.int 0)
set_option maxRecDepth 65536 in
set_option maxHeartbeats 40000000 in
theorem rmSi2_e (l : Launch) (Z : State) (av0 : Array Value) (hw : ∀ d ∈ tables_1, d.before av0 Z = true) (ws : List Jvm.Cond) (a0 : Addr) (a1 : Addr) (ka : ClassId) (h0 : Heap) (n0 : Nat) (Z0 : n0 ≤ h0.size) (hE : Exa Z h0 a0 "java/lang/String") (hV : Fld Z h0 a0 "java/lang/String" "value" "[B" .null) (hC : Fld Z h0 a0 "java/lang/String" "coder" "B" (.int (0 : Int32))) (hge : n0 ≤ a0) (hA : Arv Z h0 a1 ka .char (0 : Int32) [] (.int (0 : Int32))) (hkp : ∀ (b : Addr) (cl : Cell), Z.heap[b]? = some cl → h0[b]? = some cl) (hcH : Jvm.Lit.constHeld Z "java/lang/String" 7) (hcw : Jvm.Lit.compactW.before av0 Z = true) :
    MetFree l mN4 (head1 (Jvm.Cond.code mN4 jdk_42_method_3_code 2 none :: ws) ({ frames := 2, cells := 2, slots := 4, locals := 29 } : Room)) (fun aU U => aU = #[(.ref a0), (.ref a1)] ∧ Z.Warmed39 U.vm ∧ U.heap = h0 ∧ IB Z U.vm []) (fun _ _ _ _ _ => True) (fun _ U oU U' => ∃ vU LU, oU = .returned vU ∧ QrmSi2_e Z a0 a1 ka h0 n0 vU U'.heap LU ∧ ReturnedEndW U oU U' LU ({ frames := 2, cells := 2, slots := 4, locals := 29 } : Room).cells ({ frames := 2, cells := 2, slots := 4, locals := 29 } : Room).slots) := by
  refine MetFree.of_bodySF (plainFor_of_name pn_String) hisR ?_
  intro p e s m args below meth c s₁ Bd hml0 hP hK
  obtain ⟨rfl, hZ, hh, hI⟩ := hP
  have hml : c.maxLocals = 2 := hml0
  obtain ⟨hx, hby, hown, hnm, X0, e0⟩ := own_start Bd hml0 hh
  have N0 := Fr.nil n0
  have pre0 : ∀ t, oS p e below s₁ (mkF m 0 #[rv a0, rv a1] []) t → Steps p.tables e below (s₁.setTop (entryFrame m #[(.ref a0), (.ref a1)] 2)) t := fun t k => castTop (by first | (simp [entryFrame, mkF, argsToLocals, Value.category]; done) | rfl) k
  obtain ⟨cl1, Ar1, qk1, Sz1, Ng1, Hs1, Gs1⟩ := id hA
  have S3 : ∀ t, oS p e below s₁ (mkF m 6 #[rv a0, rv a1] [.null, (.int 0), (.int 0), (.ref a1), (.ref a0)]) t → oS p e below s₁ (mkF m 0 #[rv a0, rv a1] []) t := fun t k => id (by
    show oS p e below s₁ (mkF m 0 #[rv a0, rv a1] []) _
    refine XS.aloadN X0.here hx rfl (hb hby d1_0) rfl rfl ?_
    refine XS.aloadN X0.here hx rfl (hb hby d1_1) rfl rfl ?_
    refine XT.iconstV X0.here hx rfl (0 : Int32) (hb hby d1_2) (by decide) ?_
    refine XS.aloadN X0.here hx rfl (hb hby d1_3) rfl rfl ?_
    refine X0.arraylength hx (by rw [e0]; exact Ar1.1) (State.isArrayOf_alike hZ.alike Ar1.2.1) (g := (mkF m 4 #[rv a0, rv a1] [(.ref a1), (.int 0), (.ref a1), (.ref a0)])) rfl rfl (hb hby d1_4) _ ?_
    rw [len_of Sz1 Ng1]
    refine XS.aconstNull X0.here hx rfl (hb hby d1_5) ?_
    exact k)
  obtain ⟨_, T2, Lc2, X2, hS2, hQ2, st2⟩ := own_specialI (W := 0) (y := mN3) X0 hx hZ rfl hown (hw _ (own_w 7 rfl)) (hw _ (own_w 8 rfl)) (hw _ (own_w 10 rfl)) (hw _ (own_w 2 rfl)) (by decide) (rmSi4_e l Z av0 hw [] a0 a1 ka h0 n0 Z0 hE hV hC hge hA hkp hcH hcw) (by decide) (by decide) hI (g := (mkF m 6 #[rv a0, rv a1] [.null, (.int 0), (.int 0), (.ref a1), (.ref a0)])) rfl (by rw [hml]; rfl) (a := a0) (argsL := [(.ref a1), (.int 0), (.int 0), .null]) (rest := []) (lenOf pd__CIILjava_lang_Void_V rfl) rfl (hb hby d1_6) rfl e0 (by decide : 0 + 2 ≤ _) (by decide : 0 + 4 ≤ _)
  have hZ := State.Warmed39.trans (t := s) hZ hS2.1
  have hown : (s.setVm T2.vm).vm.findClass mN4.cls = some m.cls := by rw [show (s.setVm T2.vm).vm = T2.vm from rfl, hS2.1.alike.findClass]; exact hown
  obtain ⟨rfl, N2q, K2, FC2, b2, kb2, FV2, V2⟩ := hQ2
  have N2 := Fr.app N0 N2q
  have e2 : T2.heap = T2.heap := rfl
  have Zk2 : n0 ≤ T2.heap.size := Nat.le_trans Z0 K2.1
  have Kk2 : Keep h0 T2.heap [a0] := (Keep.refl h0 [a0]).trans K2 (allS (Or.inl (List.mem_of_getElem? (i := 0) rfl)) all0)
  have S4 : ∀ t, oS p e below T2 (mkF m 9 #[rv a0, rv a1] []) t → oS p e below s₁ (mkF m 0 #[rv a0, rv a1] []) t := fun t k => S3 t (by
    show oS p e below s₁ (mkF m 6 #[rv a0, rv a1] [.null, (.int 0), (.int 0), (.ref a1), (.ref a0)]) _
    refine st2 _ ?_
    exact k)
  obtain ⟨fs, hr, hrun, hended, hEnd⟩ := X2.leaveW hS2 (by rw [e2]; exact (Nat.le_refl _)) (v := none) (fun _ => rfl)
  refine ⟨_, _, pre0 _ (S4 _ ?_), hrun, hended, _, _, rfl, ?_, hEnd.1, hEnd.2.1, hEnd.2.2.1, hEnd.2.2.2.mono (by decide) (by decide)⟩
  · exact X2.returnOut hx Bd.returns (hb hby d1_9) hr
  · show QrmSi2_e Z a0 a1 ka h0 n0 _ T2.heap _
    rw [e2]
    exact ⟨rfl, N2, Kk2, FC2, b2, _, FV2, V2⟩
def own_St0 (Z : State) (h : Heap) (a : Addr)  : Prop := (∃ (b : Addr) (k : ClassId), Fld Z h a "java/lang/String" "value" "[B" (.ref b) ∧ Fld Z h a "java/lang/String" "coder" "B" (.int (0 : Int32)) ∧ Arv Z h b k .byte (0 : Int32) [] (.int (0 : Int32))) ∨ (∃ (b : Addr) (k : ClassId), Fld Z h a "java/lang/String" "value" "[B" (.ref b) ∧ Fld Z h a "java/lang/String" "coder" "B" (.int (1 : Int32)) ∧ Arv Z h b k .byte (0 : Int32) [] (.int (0 : Int32)))
theorem own_St0_ext {Z : State} {h h' : Heap} {a : Addr}  (S : own_St0 Z h a ) (E : Ext h h') : own_St0 Z h' a  := by
  rcases S with ⟨b, k, f, g, A⟩ | ⟨b, k, f, g, A⟩
  · exact Or.inl ⟨b, k, f.ext E, g.ext E, A.ext E⟩
  · exact Or.inr ⟨b, k, f.ext E, g.ext E, A.ext E⟩
theorem own_St0_wr {Z : State} {h h' : Heap} {a : Addr}  (S : own_St0 Z h a ) {o : Addr} {sl : Nat} {v : Value} (W : Wr h h' o sl v) (hn : a ≠ o) (hb : ∀ {b k z vs d}, Arv Z h b k .byte z vs d → b ≠ o) : own_St0 Z h' a  := by
  rcases S with ⟨b, k, f, g, A⟩ | ⟨b, k, f, g, A⟩
  · exact Or.inl ⟨b, k, f.other W (Or.inl hn), g.other W (Or.inl hn), A.other W (hb A)⟩
  · exact Or.inr ⟨b, k, f.other W (Or.inl hn), g.other W (Or.inl hn), A.other W (hb A)⟩
theorem own_St0_k0 {Z : State} {h h' : Heap} {a : Addr}  (S : own_St0 Z h a ) (K : Keep h h' []) : own_St0 Z h' a  := by
  rcases S with ⟨b, k, f, g, A⟩ | ⟨b, k, f, g, A⟩
  · exact Or.inl ⟨b, k, f.keep K nin0, g.keep K nin0, A.keep K nin0⟩
  · exact Or.inr ⟨b, k, f.keep K nin0, g.keep K nin0, A.keep K nin0⟩
theorem own_St0_k1 {Z : State} {h h' : Heap} {a : Addr}  (S : own_St0 Z h a ) {o : Addr} (K : Keep h h' [o]) (hn : a ≠ o) (hb : ∀ {b k z vs d}, Arv Z h b k .byte z vs d → b ≠ o) : own_St0 Z h' a  := by
  rcases S with ⟨b, k, f, g, A⟩ | ⟨b, k, f, g, A⟩
  · exact Or.inl ⟨b, k, f.keep K (ninS hn nin0), g.keep K (ninS hn nin0), A.keep K (ninS (hb A) nin0)⟩
  · exact Or.inr ⟨b, k, f.keep K (ninS hn nin0), g.keep K (ninS hn nin0), A.keep K (ninS (hb A) nin0)⟩
theorem d13_0 : decode jdk_42_method_152_code 0 = .ok (.getstatic 38, 3) := by decide +kernel
theorem d13_3 : decode jdk_42_method_152_code 3 = .ok (.ifCond .eq 10, 3) := by decide +kernel
theorem d13_6 : decode jdk_42_method_152_code 6 = .ok (.aload_n 0, 1) := by decide +kernel
theorem d13_7 : decode jdk_42_method_152_code 7 = .ok (.getfield 15, 3) := by decide +kernel
theorem d13_10 : decode jdk_42_method_152_code 10 = .ok (.goto 4, 3) := by decide +kernel
theorem d13_14 : decode jdk_42_method_152_code 14 = .ok (.ireturn, 1) := by decide +kernel
def QrmCoder_0 (Z : State) (a0 : Addr) (wC : Int32) (h0 : Heap) (n0 : Nat) (v : Option Value) (h : Heap) (L : List Loc) : Prop := v = some (.int 0) ∧ Fr n0 L ∧ h = h0
set_option maxRecDepth 65536 in
set_option maxHeartbeats 40000000 in
theorem rmCoder_0 (l : Launch) (Z : State) (av0 : Array Value) (hw : ∀ d ∈ tables_1, d.before av0 Z = true) (ws : List Jvm.Cond) (a0 : Addr) (wC : Int32) (h0 : Heap) (n0 : Nat) (Z0 : n0 ≤ h0.size) (hS : Sta Z h0 "java/lang/String" "COMPACT_STRINGS" "Z" (.int wC)) (hw0 : ¬ wC = (0 : Int32)) (hC : Fld Z h0 a0 "java/lang/String" "coder" "B" (.int (0 : Int32))) :
    own_Met l mN5 jdk_42_method_152_code 1 (some .byte) ws ({ frames := 0, cells := 0, slots := 0, locals := 0 } : Room) #[(.ref a0)] Z h0 (QrmCoder_0 Z a0 wC h0 n0) := by
  refine MetFree.of_bodySF (plainFor_of_name pn_String) hisR ?_
  intro p e s m args below meth c s₁ Bd hml0 hP hK
  obtain ⟨rfl, hZ, hh⟩ := hP
  have hml : c.maxLocals = 1 := hml0
  obtain ⟨hx, hby, hown, hnm, X0, e0⟩ := own_start Bd hml0 hh
  have N0 := Fr.nil n0
  have pre0 : ∀ t, oS p e below s₁ (mkF m 0 #[rv a0] []) t → Steps p.tables e below (s₁.setTop (entryFrame m #[(.ref a0)] 1)) t := fun t k => castTop (by first | (simp [entryFrame, mkF, argsToLocals, Value.category]; done) | rfl) k
  obtain ⟨T1, X1, e1, st1⟩ := getS2 X0 hx hZ hown (host := "") (Or.inl (hw _ (own_w 25 rfl))) Via.refl e0 hS (g := (mkF m 0 #[rv a0] [])) rfl (hb hby d13_0)
  obtain ⟨T2, X2, e2, st2⟩ := getF X1 hx hZ hown (host := "") (Or.inl (hw _ (own_w 21 rfl))) Via.refl e1 hC (g := (mkF m 7 #[rv a0] [(.ref a0)])) rfl rfl (hb hby d13_7)
  have S3 : ∀ t, oS p e below T2 (mkF m 14 #[rv a0] [(.int 0)]) t → oS p e below s₁ (mkF m 0 #[rv a0] []) t := fun t k => id (by
    show oS p e below s₁ (mkF m 0 #[rv a0] []) _
    refine st1 _ ?_
    refine XS.ifNo X1.here hx rfl (hb hby d13_3) rfl (XT.i0_eq_f hw0) ?_
    refine XS.aloadN X1.here hx rfl (hb hby d13_6) rfl rfl ?_
    refine st2 _ ?_
    refine XS.goto X2.here hx rfl (pc0 := 10) (pc' := 14) rfl (hb hby d13_10) (by decide) (by decide) ?_
    exact k)
  obtain ⟨fs, hr, hrun, hended, hW, hsame⟩ := X2.leave (v := some (.int (nar .byte (0 : Int32)))) (fun h => by rw [Bd.returns] at h; cases h)
  refine ⟨_, _, pre0 _ (S3 _ ?_), hrun, hended, _, _, rfl, ?_, ⟨_, rfl⟩, hW, hsame.mono (by decide) (by decide)⟩
  · exact retN X2 hx (t := .byte) Bd.returns (by simp) (hb hby d13_14) hr
  · show QrmCoder_0 Z a0 wC h0 n0 _ T2.heap _
    rw [e2]
    exact ⟨congrArg (fun z => some (Value.int z)) (by decide), N0, rfl⟩
theorem d12_0 : decode jdk_42_method_54_code 0 = .ok (.aload_n 0, 1) := by decide +kernel
theorem d12_1 : decode jdk_42_method_54_code 1 = .ok (.getfield 9, 3) := by decide +kernel
theorem d12_4 : decode jdk_42_method_54_code 4 = .ok (.arraylength, 1) := by decide +kernel
theorem d12_5 : decode jdk_42_method_54_code 5 = .ok (.aload_n 0, 1) := by decide +kernel
theorem d12_6 : decode jdk_42_method_54_code 6 = .ok (.invokevirtual 335, 3) := by decide +kernel
theorem d12_9 : decode jdk_42_method_54_code 9 = .ok (.ishr, 1) := by decide +kernel
theorem d12_10 : decode jdk_42_method_54_code 10 = .ok (.ireturn, 1) := by decide +kernel
theorem pd__B : parseMethodDescriptor "()B" = some ⟨[], some .byte⟩ := by decide +kernel
def QrmLen_0_0 (Z : State) (a0 : Addr) (ab : Addr) (kb : ClassId) (wC : Int32) (h0 : Heap) (n0 : Nat) (v : Option Value) (h : Heap) (L : List Loc) : Prop := v = some (.int (0 : Int32)) ∧ Fr n0 L ∧ h = h0
set_option maxRecDepth 65536 in
set_option maxHeartbeats 40000000 in
theorem rmLen_0_0 (l : Launch) (Z : State) (av0 : Array Value) (hw : ∀ d ∈ tables_1, d.before av0 Z = true) (ws : List Jvm.Cond) (a0 : Addr) (ab : Addr) (kb : ClassId) (wC : Int32) (h0 : Heap) (n0 : Nat) (Z0 : n0 ≤ h0.size) (hE : Exa Z h0 a0 "java/lang/String") (hV : Fld Z h0 a0 "java/lang/String" "value" "[B" (.ref ab)) (hC : Fld Z h0 a0 "java/lang/String" "coder" "B" (.int (0 : Int32))) (hB : Arv Z h0 ab kb .byte (0 : Int32) [] (.int (0 : Int32))) (hS : Sta Z h0 "java/lang/String" "COMPACT_STRINGS" "Z" (.int wC)) (hw0 : ¬ wC = (0 : Int32)) :
    own_Met l mN6 jdk_42_method_54_code 1 (some .int) ws ({ frames := 1, cells := 0, slots := 0, locals := 13 } : Room) #[(.ref a0)] Z h0 (QrmLen_0_0 Z a0 ab kb wC h0 n0) := by
  refine MetFree.of_bodySF (plainFor_of_name pn_String) hisR ?_
  intro p e s m args below meth c s₁ Bd hml0 hP hK
  obtain ⟨rfl, hZ, hh⟩ := hP
  have hml : c.maxLocals = 1 := hml0
  obtain ⟨hx, hby, hown, hnm, X0, e0⟩ := own_start Bd hml0 hh
  have N0 := Fr.nil n0
  have pre0 : ∀ t, oS p e below s₁ (mkF m 0 #[rv a0] []) t → Steps p.tables e below (s₁.setTop (entryFrame m #[(.ref a0)] 1)) t := fun t k => castTop (by first | (simp [entryFrame, mkF, argsToLocals, Value.category]; done) | rfl) k
  obtain ⟨T1, X1, e1, st1⟩ := getF X0 hx hZ hown (host := "") (Or.inl (hw _ (own_w 20 rfl))) Via.refl e0 hV (g := (mkF m 1 #[rv a0] [(.ref a0)])) rfl rfl (hb hby d12_1)
  obtain ⟨cl2, Ar2, qk2, Sz2, Ng2, Hs2, Gs2⟩ := id hB
  obtain ⟨_, T3, Lc3, X3, hQ3, st3⟩ := own_virtual (W := 1) (y := mN5) (z := mN5) X1 hx hZ hown (hw _ (own_w 56 rfl)) (hw _ (own_w 57 rfl)) (notFace_of_selects (args := #[]) (mvT hZ (hw _ (own_w 59 rfl)))) (hw _ (own_w 59 rfl)) (hw _ (own_w 58 rfl)) (hw _ (own_w 60 rfl)) (hw _ (own_w 2 rfl)) (by decide) (rmCoder_0 l Z av0 hw [] a0 wC h0 n0 Z0 hS hw0 hC) (by decide) (by decide) hE (g := (mkF m 6 #[rv a0] [(.ref a0), (.int 0)])) rfl (by rw [hml]; rfl) (argsL := []) (rest := [(.int 0)]) (lenOf pd__B rfl) rfl (hb hby d12_6) rfl e1 (by decide : 0 + 0 ≤ _) (by decide : 0 + 0 ≤ _)
  obtain ⟨rfl, N3q, hh3⟩ := hQ3
  have N3 := Fr.app N0 N3q
  have e3 : T3.heap = h0 := hh3
  have S4 : ∀ t, oS p e below T3 (mkF m 10 #[rv a0] [(.int 0)]) t → oS p e below s₁ (mkF m 0 #[rv a0] []) t := fun t k => id (by
    show oS p e below s₁ (mkF m 0 #[rv a0] []) _
    refine XS.aloadN X0.here hx rfl (hb hby d12_0) rfl rfl ?_
    refine st1 _ ?_
    refine X1.arraylength hx (by rw [e1]; exact Ar2.1) (State.isArrayOf_alike hZ.alike Ar2.2.1) (g := (mkF m 4 #[rv a0] [(.ref ab)])) rfl rfl (hb hby d12_4) _ ?_
    rw [len_of Sz2 Ng2]
    refine XS.aloadN X1.here hx rfl (hb hby d12_5) rfl rfl ?_
    refine st3 _ ?_
    refine XT.ishr X3.here hx rfl (hb hby d12_9) rfl ?_
    exact k)
  obtain ⟨fs, hr, hrun, hended, hW, hsame⟩ := X3.leave (v := some (.int 0)) (fun h => by rw [Bd.returns] at h; cases h)
  refine ⟨_, _, pre0 _ (S4 _ ?_), hrun, hended, _, _, rfl, ?_, ⟨_, rfl⟩, hW, hsame.mono (by decide) (by decide)⟩
  · exact retI X3 hx Bd.returns (hb hby d12_10) hr
  · show QrmLen_0_0 Z a0 ab kb wC h0 n0 _ T3.heap _
    rw [e3]
    exact ⟨congrArg (fun z => some (Value.int z)) (by decide), N3, rfl⟩
def QrmCoder_1 (Z : State) (a0 : Addr) (wC : Int32) (h0 : Heap) (n0 : Nat) (v : Option Value) (h : Heap) (L : List Loc) : Prop := v = some (.int 1) ∧ Fr n0 L ∧ h = h0
set_option maxRecDepth 65536 in
set_option maxHeartbeats 40000000 in
theorem rmCoder_1 (l : Launch) (Z : State) (av0 : Array Value) (hw : ∀ d ∈ tables_1, d.before av0 Z = true) (ws : List Jvm.Cond) (a0 : Addr) (wC : Int32) (h0 : Heap) (n0 : Nat) (Z0 : n0 ≤ h0.size) (hS : Sta Z h0 "java/lang/String" "COMPACT_STRINGS" "Z" (.int wC)) (hw0 : ¬ wC = (0 : Int32)) (hC : Fld Z h0 a0 "java/lang/String" "coder" "B" (.int (1 : Int32))) :
    own_Met l mN5 jdk_42_method_152_code 1 (some .byte) ws ({ frames := 0, cells := 0, slots := 0, locals := 0 } : Room) #[(.ref a0)] Z h0 (QrmCoder_1 Z a0 wC h0 n0) := by
  refine MetFree.of_bodySF (plainFor_of_name pn_String) hisR ?_
  intro p e s m args below meth c s₁ Bd hml0 hP hK
  obtain ⟨rfl, hZ, hh⟩ := hP
  have hml : c.maxLocals = 1 := hml0
  obtain ⟨hx, hby, hown, hnm, X0, e0⟩ := own_start Bd hml0 hh
  have N0 := Fr.nil n0
  have pre0 : ∀ t, oS p e below s₁ (mkF m 0 #[rv a0] []) t → Steps p.tables e below (s₁.setTop (entryFrame m #[(.ref a0)] 1)) t := fun t k => castTop (by first | (simp [entryFrame, mkF, argsToLocals, Value.category]; done) | rfl) k
  obtain ⟨T1, X1, e1, st1⟩ := getS2 X0 hx hZ hown (host := "") (Or.inl (hw _ (own_w 25 rfl))) Via.refl e0 hS (g := (mkF m 0 #[rv a0] [])) rfl (hb hby d13_0)
  obtain ⟨T2, X2, e2, st2⟩ := getF X1 hx hZ hown (host := "") (Or.inl (hw _ (own_w 21 rfl))) Via.refl e1 hC (g := (mkF m 7 #[rv a0] [(.ref a0)])) rfl rfl (hb hby d13_7)
  have S3 : ∀ t, oS p e below T2 (mkF m 14 #[rv a0] [(.int 1)]) t → oS p e below s₁ (mkF m 0 #[rv a0] []) t := fun t k => id (by
    show oS p e below s₁ (mkF m 0 #[rv a0] []) _
    refine st1 _ ?_
    refine XS.ifNo X1.here hx rfl (hb hby d13_3) rfl (XT.i0_eq_f hw0) ?_
    refine XS.aloadN X1.here hx rfl (hb hby d13_6) rfl rfl ?_
    refine st2 _ ?_
    refine XS.goto X2.here hx rfl (pc0 := 10) (pc' := 14) rfl (hb hby d13_10) (by decide) (by decide) ?_
    exact k)
  obtain ⟨fs, hr, hrun, hended, hW, hsame⟩ := X2.leave (v := some (.int (nar .byte (1 : Int32)))) (fun h => by rw [Bd.returns] at h; cases h)
  refine ⟨_, _, pre0 _ (S3 _ ?_), hrun, hended, _, _, rfl, ?_, ⟨_, rfl⟩, hW, hsame.mono (by decide) (by decide)⟩
  · exact retN X2 hx (t := .byte) Bd.returns (by simp) (hb hby d13_14) hr
  · show QrmCoder_1 Z a0 wC h0 n0 _ T2.heap _
    rw [e2]
    exact ⟨congrArg (fun z => some (Value.int z)) (by decide), N0, rfl⟩
def QrmLen_0_1 (Z : State) (a0 : Addr) (ab : Addr) (kb : ClassId) (wC : Int32) (h0 : Heap) (n0 : Nat) (v : Option Value) (h : Heap) (L : List Loc) : Prop := v = some (.int (0 : Int32)) ∧ Fr n0 L ∧ h = h0
set_option maxRecDepth 65536 in
set_option maxHeartbeats 40000000 in
theorem rmLen_0_1 (l : Launch) (Z : State) (av0 : Array Value) (hw : ∀ d ∈ tables_1, d.before av0 Z = true) (ws : List Jvm.Cond) (a0 : Addr) (ab : Addr) (kb : ClassId) (wC : Int32) (h0 : Heap) (n0 : Nat) (Z0 : n0 ≤ h0.size) (hE : Exa Z h0 a0 "java/lang/String") (hV : Fld Z h0 a0 "java/lang/String" "value" "[B" (.ref ab)) (hC : Fld Z h0 a0 "java/lang/String" "coder" "B" (.int (1 : Int32))) (hB : Arv Z h0 ab kb .byte (0 : Int32) [] (.int (0 : Int32))) (hS : Sta Z h0 "java/lang/String" "COMPACT_STRINGS" "Z" (.int wC)) (hw0 : ¬ wC = (0 : Int32)) :
    own_Met l mN6 jdk_42_method_54_code 1 (some .int) ws ({ frames := 1, cells := 0, slots := 0, locals := 13 } : Room) #[(.ref a0)] Z h0 (QrmLen_0_1 Z a0 ab kb wC h0 n0) := by
  refine MetFree.of_bodySF (plainFor_of_name pn_String) hisR ?_
  intro p e s m args below meth c s₁ Bd hml0 hP hK
  obtain ⟨rfl, hZ, hh⟩ := hP
  have hml : c.maxLocals = 1 := hml0
  obtain ⟨hx, hby, hown, hnm, X0, e0⟩ := own_start Bd hml0 hh
  have N0 := Fr.nil n0
  have pre0 : ∀ t, oS p e below s₁ (mkF m 0 #[rv a0] []) t → Steps p.tables e below (s₁.setTop (entryFrame m #[(.ref a0)] 1)) t := fun t k => castTop (by first | (simp [entryFrame, mkF, argsToLocals, Value.category]; done) | rfl) k
  obtain ⟨T1, X1, e1, st1⟩ := getF X0 hx hZ hown (host := "") (Or.inl (hw _ (own_w 20 rfl))) Via.refl e0 hV (g := (mkF m 1 #[rv a0] [(.ref a0)])) rfl rfl (hb hby d12_1)
  obtain ⟨cl2, Ar2, qk2, Sz2, Ng2, Hs2, Gs2⟩ := id hB
  obtain ⟨_, T3, Lc3, X3, hQ3, st3⟩ := own_virtual (W := 1) (y := mN5) (z := mN5) X1 hx hZ hown (hw _ (own_w 56 rfl)) (hw _ (own_w 57 rfl)) (notFace_of_selects (args := #[]) (mvT hZ (hw _ (own_w 59 rfl)))) (hw _ (own_w 59 rfl)) (hw _ (own_w 58 rfl)) (hw _ (own_w 60 rfl)) (hw _ (own_w 2 rfl)) (by decide) (rmCoder_1 l Z av0 hw [] a0 wC h0 n0 Z0 hS hw0 hC) (by decide) (by decide) hE (g := (mkF m 6 #[rv a0] [(.ref a0), (.int 0)])) rfl (by rw [hml]; rfl) (argsL := []) (rest := [(.int 0)]) (lenOf pd__B rfl) rfl (hb hby d12_6) rfl e1 (by decide : 0 + 0 ≤ _) (by decide : 0 + 0 ≤ _)
  obtain ⟨rfl, N3q, hh3⟩ := hQ3
  have N3 := Fr.app N0 N3q
  have e3 : T3.heap = h0 := hh3
  have S4 : ∀ t, oS p e below T3 (mkF m 10 #[rv a0] [(.int 0)]) t → oS p e below s₁ (mkF m 0 #[rv a0] []) t := fun t k => id (by
    show oS p e below s₁ (mkF m 0 #[rv a0] []) _
    refine XS.aloadN X0.here hx rfl (hb hby d12_0) rfl rfl ?_
    refine st1 _ ?_
    refine X1.arraylength hx (by rw [e1]; exact Ar2.1) (State.isArrayOf_alike hZ.alike Ar2.2.1) (g := (mkF m 4 #[rv a0] [(.ref ab)])) rfl rfl (hb hby d12_4) _ ?_
    rw [len_of Sz2 Ng2]
    refine XS.aloadN X1.here hx rfl (hb hby d12_5) rfl rfl ?_
    refine st3 _ ?_
    refine XT.ishr X3.here hx rfl (hb hby d12_9) rfl ?_
    exact k)
  obtain ⟨fs, hr, hrun, hended, hW, hsame⟩ := X3.leave (v := some (.int 0)) (fun h => by rw [Bd.returns] at h; cases h)
  refine ⟨_, _, pre0 _ (S4 _ ?_), hrun, hended, _, _, rfl, ?_, ⟨_, rfl⟩, hW, hsame.mono (by decide) (by decide)⟩
  · exact retI X3 hx Bd.returns (hb hby d12_10) hr
  · show QrmLen_0_1 Z a0 ab kb wC h0 n0 _ T3.heap _
    rw [e3]
    exact ⟨congrArg (fun z => some (Value.int z)) (by decide), N3, rfl⟩
theorem rmLenJ_0 (l : Launch) (Z : State) (av0 : Array Value) (hw : ∀ d ∈ tables_1, d.before av0 Z = true) (ws : List Jvm.Cond) (a0 : Addr) (wC : Int32) (fm : Value)  (h0 : Heap) (n0 : Nat) (Z0 : n0 ≤ h0.size) (hE : Exa Z h0 a0 "java/lang/String") (hSt : own_St0 Z h0 a0 ) (hS : Sta Z h0 "java/lang/String" "COMPACT_STRINGS" "Z" (.int wC)) (hw0 : ¬ wC = (0 : Int32))  :
    own_Met l mN6 jdk_42_method_54_code 1 (some .int) ws ({ frames := 1, cells := 0, slots := 0, locals := 13 } : Room) #[(.ref a0)] Z h0 (fun v h L => v = some (.int (0 : Int32)) ∧ Fr n0 L ∧ h = h0) := by
  rcases hSt with ⟨ab, kb, hV, hC, hB⟩ | ⟨ab, kb, hV, hC, hB⟩
  · exact rmLen_0_0 l Z av0 hw ws a0 ab kb wC  h0 n0 Z0 hE hV hC hB hS hw0
  · exact rmLen_0_1 l Z av0 hw ws a0 ab kb wC  h0 n0 Z0 hE hV hC hB hS hw0
theorem d11_0 : decode prog_27_method_5_code 0 = .ok (.iconst 1, 1) := by decide +kernel
theorem d11_1 : decode prog_27_method_5_code 1 = .ok (.istore_n 1, 1) := by decide +kernel
theorem d11_2 : decode prog_27_method_5_code 2 = .ok (.iconst 0, 1) := by decide +kernel
theorem d11_3 : decode prog_27_method_5_code 3 = .ok (.istore_n 2, 1) := by decide +kernel
theorem d11_4 : decode prog_27_method_5_code 4 = .ok (.iload_n 2, 1) := by decide +kernel
theorem d11_5 : decode prog_27_method_5_code 5 = .ok (.aload_n 0, 1) := by decide +kernel
theorem d11_6 : decode prog_27_method_5_code 6 = .ok (.invokevirtual 158, 3) := by decide +kernel
theorem d11_9 : decode prog_27_method_5_code 9 = .ok (.if_icmp .ge 38, 3) := by decide +kernel
theorem d11_47 : decode prog_27_method_5_code 47 = .ok (.iload_n 1, 1) := by decide +kernel
theorem d11_48 : decode prog_27_method_5_code 48 = .ok (.ireturn, 1) := by decide +kernel
theorem pn_HttpFields : plainName "com/example/headwater/headwater/core/HttpFields" = true := by first | (simp [plainName, overriddenIn]; done) | decide +kernel
theorem pd__I : parseMethodDescriptor "()I" = some ⟨[], some .int⟩ := by decide +kernel
def QrmFv_0 (Z : State) (a0 : Addr) (wC : Int32) (fm : Value) (h0 : Heap) (n0 : Nat) (v : Option Value) (h : Heap) (L : List Loc) : Prop := v = some (.int (own_fv [])) ∧ Fr n0 L ∧ h = h0
set_option maxRecDepth 65536 in
set_option maxHeartbeats 40000000 in
theorem rmFv_0 (l : Launch) (Z : State) (av0 : Array Value) (hw : ∀ d ∈ tables_1, d.before av0 Z = true) (ws : List Jvm.Cond) (a0 : Addr) (wC : Int32) (fm : Value) (h0 : Heap) (n0 : Nat) (Z0 : n0 ≤ h0.size) (hE : Exa Z h0 a0 "java/lang/String") (hSt : own_St0 Z h0 a0 ) (hS : Sta Z h0 "java/lang/String" "COMPACT_STRINGS" "Z" (.int wC)) (hw0 : ¬ wC = (0 : Int32)) (hfm : fm.isRef = true) (hF : Sta Z h0 "jdk/internal/util/Preconditions" "SIOOBE_FORMATTER" "Ljava/util/function/BiFunction;" fm) (sA : Sta Z h0 "java/lang/StringUTF16" "$assertionsDisabled" "Z" (.int (1 : Int32))) (sH : Sta Z h0 "java/lang/StringUTF16" "HI_BYTE_SHIFT" "I" (.int (0 : Int32))) (sL : Sta Z h0 "java/lang/StringUTF16" "LO_BYTE_SHIFT" "I" (.int (8 : Int32))) :
    own_Met l mN7 prog_27_method_5_code 4 (some .boolean) ws ({ frames := 2, cells := 0, slots := 0, locals := 26 } : Room) #[(.ref a0)] Z h0 (QrmFv_0 Z a0 wC fm h0 n0) := by
  refine MetFree.of_bodySF (plainFor_of_name pn_HttpFields) hisR ?_
  intro p e s m args below meth c s₁ Bd hml0 hP hK
  obtain ⟨rfl, hZ, hh⟩ := hP
  have hml : c.maxLocals = 4 := hml0
  obtain ⟨hx, hby, hown, hnm, X0, e0⟩ := own_start Bd hml0 hh
  have N0 := Fr.nil n0
  have pre0 : ∀ t, oS p e below s₁ (mkF m 0 #[rv a0, .unset, .unset, .unset] []) t → Steps p.tables e below (s₁.setTop (entryFrame m #[(.ref a0)] 4)) t := fun t k => castTop (by first | (simp [entryFrame, mkF, argsToLocals, Value.category]; done) | rfl) k
  obtain ⟨_, T1, Lc1, X1, hQ1, st1⟩ := own_virtual (W := 1) (y := mN6) (z := mN6) X0 hx hZ hown (hw _ (own_w 51 rfl)) (hw _ (own_w 52 rfl)) (notFace_of_selects (args := #[]) (mvT hZ (hw _ (own_w 54 rfl)))) (hw _ (own_w 54 rfl)) (hw _ (own_w 53 rfl)) (hw _ (own_w 55 rfl)) (hw _ (own_w 2 rfl)) (by decide) (rmLenJ_0 l Z av0 hw [] a0 wC fm  h0 n0 Z0 hE hSt hS hw0) (by decide) (by decide) hE (g := (mkF m 6 #[rv a0, iv 1, iv 0, .unset] [(.ref a0), (.int 0)])) rfl (by rw [hml]; rfl) (argsL := []) (rest := [(.int 0)]) (lenOf pd__I rfl) rfl (hb hby d11_6) rfl e0 (by decide : 0 + 0 ≤ _) (by decide : 0 + 0 ≤ _)
  obtain ⟨rfl, N1q, hh1⟩ := hQ1
  have N1 := Fr.app N0 N1q
  have e1 : T1.heap = h0 := hh1
  have S2 : ∀ t, oS p e below T1 (mkF m 48 #[rv a0, iv 1, iv 0, .unset] [(.int 1)]) t → oS p e below s₁ (mkF m 0 #[rv a0, .unset, .unset, .unset] []) t := fun t k => id (by
    show oS p e below s₁ (mkF m 0 #[rv a0, .unset, .unset, .unset] []) _
    refine XT.iconstV X0.here hx rfl (1 : Int32) (hb hby d11_0) (by decide) ?_
    refine XS.istoreN X0.here hx rfl (hb hby d11_1) rfl (l' := #[rv a0, iv 1, .unset, .unset]) rfl ?_
    refine XT.iconstV X0.here hx rfl (0 : Int32) (hb hby d11_2) (by decide) ?_
    refine XS.istoreN X0.here hx rfl (hb hby d11_3) rfl (l' := #[rv a0, iv 1, iv 0, .unset]) rfl ?_
    refine XS.iloadN X0.here hx rfl (hb hby d11_4) rfl ?_
    refine XS.aloadN X0.here hx rfl (hb hby d11_5) rfl rfl ?_
    refine st1 _ ?_
    refine XS.icmpYes X1.here hx rfl (pc0 := 9) (pc' := 47) rfl (hb hby d11_9) rfl (XT.ii_ge_t (by decide)) (by decide) (by decide) ?_
    refine XS.iloadN X1.here hx rfl (hb hby d11_47) rfl ?_
    exact k)
  obtain ⟨fs, hr, hrun, hended, hW, hsame⟩ := X1.leave (v := some (.int 1)) (fun h => by rw [Bd.returns] at h; cases h)
  refine ⟨_, _, pre0 _ (S2 _ ?_), hrun, hended, _, _, rfl, ?_, ⟨_, rfl⟩, hW, hsame.mono (by decide) (by decide)⟩
  · exact retN X1 hx (t := .boolean) Bd.returns (by simp) (hb hby d11_48) hr
  · show QrmFv_0 Z a0 wC fm h0 n0 _ T1.heap _
    rw [e1]
    exact ⟨by simp [own_fv], N1, rfl⟩
def own_St1 (Z : State) (h : Heap) (a : Addr) (c0 : Int32) : Prop := (∃ (b : Addr) (k : ClassId), Fld Z h a "java/lang/String" "value" "[B" (.ref b) ∧ Fld Z h a "java/lang/String" "coder" "B" (.int (0 : Int32)) ∧ Arv Z h b k .byte (1 : Int32) [(.int (own_b c0))] (.int (0 : Int32)) ∧ ¬ (255 : Int32) < c0) ∨ (∃ (b : Addr) (k : ClassId), Fld Z h a "java/lang/String" "value" "[B" (.ref b) ∧ Fld Z h a "java/lang/String" "coder" "B" (.int (1 : Int32)) ∧ Arv Z h b k .byte (2 : Int32) [(.int (own_lo c0)), (.int (own_hi c0))] (.int (0 : Int32)))
theorem own_St1_ext {Z : State} {h h' : Heap} {a : Addr} {c0 : Int32} (S : own_St1 Z h a c0) (E : Ext h h') : own_St1 Z h' a c0 := by
  rcases S with ⟨b, k, f, g, A, r0⟩ | ⟨b, k, f, g, A⟩
  · exact Or.inl ⟨b, k, f.ext E, g.ext E, A.ext E, r0⟩
  · exact Or.inr ⟨b, k, f.ext E, g.ext E, A.ext E⟩
theorem own_St1_wr {Z : State} {h h' : Heap} {a : Addr} {c0 : Int32} (S : own_St1 Z h a c0) {o : Addr} {sl : Nat} {v : Value} (W : Wr h h' o sl v) (hn : a ≠ o) (hb : ∀ {b k z vs d}, Arv Z h b k .byte z vs d → b ≠ o) : own_St1 Z h' a c0 := by
  rcases S with ⟨b, k, f, g, A, r0⟩ | ⟨b, k, f, g, A⟩
  · exact Or.inl ⟨b, k, f.other W (Or.inl hn), g.other W (Or.inl hn), A.other W (hb A), r0⟩
  · exact Or.inr ⟨b, k, f.other W (Or.inl hn), g.other W (Or.inl hn), A.other W (hb A)⟩
theorem own_St1_k0 {Z : State} {h h' : Heap} {a : Addr} {c0 : Int32} (S : own_St1 Z h a c0) (K : Keep h h' []) : own_St1 Z h' a c0 := by
  rcases S with ⟨b, k, f, g, A, r0⟩ | ⟨b, k, f, g, A⟩
  · exact Or.inl ⟨b, k, f.keep K nin0, g.keep K nin0, A.keep K nin0, r0⟩
  · exact Or.inr ⟨b, k, f.keep K nin0, g.keep K nin0, A.keep K nin0⟩
theorem own_St1_k1 {Z : State} {h h' : Heap} {a : Addr} {c0 : Int32} (S : own_St1 Z h a c0) {o : Addr} (K : Keep h h' [o]) (hn : a ≠ o) (hb : ∀ {b k z vs d}, Arv Z h b k .byte z vs d → b ≠ o) : own_St1 Z h' a c0 := by
  rcases S with ⟨b, k, f, g, A, r0⟩ | ⟨b, k, f, g, A⟩
  · exact Or.inl ⟨b, k, f.keep K (ninS hn nin0), g.keep K (ninS hn nin0), A.keep K (ninS (hb A) nin0), r0⟩
  · exact Or.inr ⟨b, k, f.keep K (ninS hn nin0), g.keep K (ninS hn nin0), A.keep K (ninS (hb A) nin0)⟩
def QrmLen_1_0 (Z : State) (a0 : Addr) (ab : Addr) (kb : ClassId) (wC : Int32) (c0 : Int32) (h0 : Heap) (n0 : Nat) (v : Option Value) (h : Heap) (L : List Loc) : Prop := v = some (.int (1 : Int32)) ∧ Fr n0 L ∧ h = h0
set_option maxRecDepth 65536 in
set_option maxHeartbeats 40000000 in
theorem rmLen_1_0 (l : Launch) (Z : State) (av0 : Array Value) (hw : ∀ d ∈ tables_1, d.before av0 Z = true) (ws : List Jvm.Cond) (a0 : Addr) (ab : Addr) (kb : ClassId) (wC : Int32) (c0 : Int32) (h0 : Heap) (n0 : Nat) (Z0 : n0 ≤ h0.size) (hE : Exa Z h0 a0 "java/lang/String") (hV : Fld Z h0 a0 "java/lang/String" "value" "[B" (.ref ab)) (hC : Fld Z h0 a0 "java/lang/String" "coder" "B" (.int (0 : Int32))) (hB : Arv Z h0 ab kb .byte (1 : Int32) [(.int (own_b c0))] (.int (0 : Int32))) (hS : Sta Z h0 "java/lang/String" "COMPACT_STRINGS" "Z" (.int wC)) (hw0 : ¬ wC = (0 : Int32)) :
    own_Met l mN6 jdk_42_method_54_code 1 (some .int) ws ({ frames := 1, cells := 0, slots := 0, locals := 13 } : Room) #[(.ref a0)] Z h0 (QrmLen_1_0 Z a0 ab kb wC c0 h0 n0) := by
  refine MetFree.of_bodySF (plainFor_of_name pn_String) hisR ?_
  intro p e s m args below meth c s₁ Bd hml0 hP hK
  obtain ⟨rfl, hZ, hh⟩ := hP
  have hml : c.maxLocals = 1 := hml0
  obtain ⟨hx, hby, hown, hnm, X0, e0⟩ := own_start Bd hml0 hh
  have N0 := Fr.nil n0
  have pre0 : ∀ t, oS p e below s₁ (mkF m 0 #[rv a0] []) t → Steps p.tables e below (s₁.setTop (entryFrame m #[(.ref a0)] 1)) t := fun t k => castTop (by first | (simp [entryFrame, mkF, argsToLocals, Value.category]; done) | rfl) k
  obtain ⟨T1, X1, e1, st1⟩ := getF X0 hx hZ hown (host := "") (Or.inl (hw _ (own_w 20 rfl))) Via.refl e0 hV (g := (mkF m 1 #[rv a0] [(.ref a0)])) rfl rfl (hb hby d12_1)
  obtain ⟨cl2, Ar2, qk2, Sz2, Ng2, Hs2, Gs2⟩ := id hB
  obtain ⟨_, T3, Lc3, X3, hQ3, st3⟩ := own_virtual (W := 1) (y := mN5) (z := mN5) X1 hx hZ hown (hw _ (own_w 56 rfl)) (hw _ (own_w 57 rfl)) (notFace_of_selects (args := #[]) (mvT hZ (hw _ (own_w 59 rfl)))) (hw _ (own_w 59 rfl)) (hw _ (own_w 58 rfl)) (hw _ (own_w 60 rfl)) (hw _ (own_w 2 rfl)) (by decide) (rmCoder_0 l Z av0 hw [] a0 wC h0 n0 Z0 hS hw0 hC) (by decide) (by decide) hE (g := (mkF m 6 #[rv a0] [(.ref a0), (.int 1)])) rfl (by rw [hml]; rfl) (argsL := []) (rest := [(.int 1)]) (lenOf pd__B rfl) rfl (hb hby d12_6) rfl e1 (by decide : 0 + 0 ≤ _) (by decide : 0 + 0 ≤ _)
  obtain ⟨rfl, N3q, hh3⟩ := hQ3
  have N3 := Fr.app N0 N3q
  have e3 : T3.heap = h0 := hh3
  have S4 : ∀ t, oS p e below T3 (mkF m 10 #[rv a0] [(.int 1)]) t → oS p e below s₁ (mkF m 0 #[rv a0] []) t := fun t k => id (by
    show oS p e below s₁ (mkF m 0 #[rv a0] []) _
    refine XS.aloadN X0.here hx rfl (hb hby d12_0) rfl rfl ?_
    refine st1 _ ?_
    refine X1.arraylength hx (by rw [e1]; exact Ar2.1) (State.isArrayOf_alike hZ.alike Ar2.2.1) (g := (mkF m 4 #[rv a0] [(.ref ab)])) rfl rfl (hb hby d12_4) _ ?_
    rw [len_of Sz2 Ng2]
    refine XS.aloadN X1.here hx rfl (hb hby d12_5) rfl rfl ?_
    refine st3 _ ?_
    refine XT.ishr X3.here hx rfl (hb hby d12_9) rfl ?_
    exact k)
  obtain ⟨fs, hr, hrun, hended, hW, hsame⟩ := X3.leave (v := some (.int 1)) (fun h => by rw [Bd.returns] at h; cases h)
  refine ⟨_, _, pre0 _ (S4 _ ?_), hrun, hended, _, _, rfl, ?_, ⟨_, rfl⟩, hW, hsame.mono (by decide) (by decide)⟩
  · exact retI X3 hx Bd.returns (hb hby d12_10) hr
  · show QrmLen_1_0 Z a0 ab kb wC c0 h0 n0 _ T3.heap _
    rw [e3]
    exact ⟨congrArg (fun z => some (Value.int z)) (by decide), N3, rfl⟩
def QrmLen_1_1 (Z : State) (a0 : Addr) (ab : Addr) (kb : ClassId) (wC : Int32) (c0 : Int32) (h0 : Heap) (n0 : Nat) (v : Option Value) (h : Heap) (L : List Loc) : Prop := v = some (.int (1 : Int32)) ∧ Fr n0 L ∧ h = h0
set_option maxRecDepth 65536 in
set_option maxHeartbeats 40000000 in
theorem rmLen_1_1 (l : Launch) (Z : State) (av0 : Array Value) (hw : ∀ d ∈ tables_1, d.before av0 Z = true) (ws : List Jvm.Cond) (a0 : Addr) (ab : Addr) (kb : ClassId) (wC : Int32) (c0 : Int32) (h0 : Heap) (n0 : Nat) (Z0 : n0 ≤ h0.size) (hE : Exa Z h0 a0 "java/lang/String") (hV : Fld Z h0 a0 "java/lang/String" "value" "[B" (.ref ab)) (hC : Fld Z h0 a0 "java/lang/String" "coder" "B" (.int (1 : Int32))) (hB : Arv Z h0 ab kb .byte (2 : Int32) [(.int (own_lo c0)), (.int (own_hi c0))] (.int (0 : Int32))) (hS : Sta Z h0 "java/lang/String" "COMPACT_STRINGS" "Z" (.int wC)) (hw0 : ¬ wC = (0 : Int32)) :
    own_Met l mN6 jdk_42_method_54_code 1 (some .int) ws ({ frames := 1, cells := 0, slots := 0, locals := 13 } : Room) #[(.ref a0)] Z h0 (QrmLen_1_1 Z a0 ab kb wC c0 h0 n0) := by
  refine MetFree.of_bodySF (plainFor_of_name pn_String) hisR ?_
  intro p e s m args below meth c s₁ Bd hml0 hP hK
  obtain ⟨rfl, hZ, hh⟩ := hP
  have hml : c.maxLocals = 1 := hml0
  obtain ⟨hx, hby, hown, hnm, X0, e0⟩ := own_start Bd hml0 hh
  have N0 := Fr.nil n0
  have pre0 : ∀ t, oS p e below s₁ (mkF m 0 #[rv a0] []) t → Steps p.tables e below (s₁.setTop (entryFrame m #[(.ref a0)] 1)) t := fun t k => castTop (by first | (simp [entryFrame, mkF, argsToLocals, Value.category]; done) | rfl) k
  obtain ⟨T1, X1, e1, st1⟩ := getF X0 hx hZ hown (host := "") (Or.inl (hw _ (own_w 20 rfl))) Via.refl e0 hV (g := (mkF m 1 #[rv a0] [(.ref a0)])) rfl rfl (hb hby d12_1)
  obtain ⟨cl2, Ar2, qk2, Sz2, Ng2, Hs2, Gs2⟩ := id hB
  obtain ⟨_, T3, Lc3, X3, hQ3, st3⟩ := own_virtual (W := 1) (y := mN5) (z := mN5) X1 hx hZ hown (hw _ (own_w 56 rfl)) (hw _ (own_w 57 rfl)) (notFace_of_selects (args := #[]) (mvT hZ (hw _ (own_w 59 rfl)))) (hw _ (own_w 59 rfl)) (hw _ (own_w 58 rfl)) (hw _ (own_w 60 rfl)) (hw _ (own_w 2 rfl)) (by decide) (rmCoder_1 l Z av0 hw [] a0 wC h0 n0 Z0 hS hw0 hC) (by decide) (by decide) hE (g := (mkF m 6 #[rv a0] [(.ref a0), (.int 2)])) rfl (by rw [hml]; rfl) (argsL := []) (rest := [(.int 2)]) (lenOf pd__B rfl) rfl (hb hby d12_6) rfl e1 (by decide : 0 + 0 ≤ _) (by decide : 0 + 0 ≤ _)
  obtain ⟨rfl, N3q, hh3⟩ := hQ3
  have N3 := Fr.app N0 N3q
  have e3 : T3.heap = h0 := hh3
  have S4 : ∀ t, oS p e below T3 (mkF m 10 #[rv a0] [(.int 1)]) t → oS p e below s₁ (mkF m 0 #[rv a0] []) t := fun t k => id (by
    show oS p e below s₁ (mkF m 0 #[rv a0] []) _
    refine XS.aloadN X0.here hx rfl (hb hby d12_0) rfl rfl ?_
    refine st1 _ ?_
    refine X1.arraylength hx (by rw [e1]; exact Ar2.1) (State.isArrayOf_alike hZ.alike Ar2.2.1) (g := (mkF m 4 #[rv a0] [(.ref ab)])) rfl rfl (hb hby d12_4) _ ?_
    rw [len_of Sz2 Ng2]
    refine XS.aloadN X1.here hx rfl (hb hby d12_5) rfl rfl ?_
    refine st3 _ ?_
    refine XT.ishr X3.here hx rfl (hb hby d12_9) rfl ?_
    exact k)
  obtain ⟨fs, hr, hrun, hended, hW, hsame⟩ := X3.leave (v := some (.int 1)) (fun h => by rw [Bd.returns] at h; cases h)
  refine ⟨_, _, pre0 _ (S4 _ ?_), hrun, hended, _, _, rfl, ?_, ⟨_, rfl⟩, hW, hsame.mono (by decide) (by decide)⟩
  · exact retI X3 hx Bd.returns (hb hby d12_10) hr
  · show QrmLen_1_1 Z a0 ab kb wC c0 h0 n0 _ T3.heap _
    rw [e3]
    exact ⟨congrArg (fun z => some (Value.int z)) (by decide), N3, rfl⟩
theorem rmLenJ_1 (l : Launch) (Z : State) (av0 : Array Value) (hw : ∀ d ∈ tables_1, d.before av0 Z = true) (ws : List Jvm.Cond) (a0 : Addr) (wC : Int32) (fm : Value) (c0 : Int32) (h0 : Heap) (n0 : Nat) (Z0 : n0 ≤ h0.size) (hE : Exa Z h0 a0 "java/lang/String") (hSt : own_St1 Z h0 a0 c0) (hS : Sta Z h0 "java/lang/String" "COMPACT_STRINGS" "Z" (.int wC)) (hw0 : ¬ wC = (0 : Int32))  :
    own_Met l mN6 jdk_42_method_54_code 1 (some .int) ws ({ frames := 1, cells := 0, slots := 0, locals := 13 } : Room) #[(.ref a0)] Z h0 (fun v h L => v = some (.int (1 : Int32)) ∧ Fr n0 L ∧ h = h0) := by
  rcases hSt with ⟨ab, kb, hV, hC, hB, lt0⟩ | ⟨ab, kb, hV, hC, hB⟩
  · exact rmLen_1_0 l Z av0 hw ws a0 ab kb wC c0 h0 n0 Z0 hE hV hC hB hS hw0
  · exact rmLen_1_1 l Z av0 hw ws a0 ab kb wC c0 h0 n0 Z0 hE hV hC hB hS hw0
theorem d18_0 : decode jdk_41_method_11_code 0 = .ok (.iload_n 0, 1) := by decide +kernel
theorem d18_1 : decode jdk_41_method_11_code 1 = .ok (.ifCond .lt 8, 3) := by decide +kernel
theorem d18_4 : decode jdk_41_method_11_code 4 = .ok (.iload_n 0, 1) := by decide +kernel
theorem d18_5 : decode jdk_41_method_11_code 5 = .ok (.iload_n 1, 1) := by decide +kernel
theorem d18_6 : decode jdk_41_method_11_code 6 = .ok (.if_icmp .lt 10, 3) := by decide +kernel
theorem d18_16 : decode jdk_41_method_11_code 16 = .ok (.iload_n 0, 1) := by decide +kernel
theorem d18_17 : decode jdk_41_method_11_code 17 = .ok (.ireturn, 1) := by decide +kernel
theorem pn_Preconditions : plainName "jdk/internal/util/Preconditions" = true := by first | (simp [plainName, overriddenIn]; done) | decide +kernel
def QrmPcin (Z : State) (p0 : Int32) (p1 : Int32) (h0 : Heap) (n0 : Nat) (v : Option Value) (h : Heap) (L : List Loc) : Prop := v = some (.int p0) ∧ Fr n0 L ∧ h = h0
set_option maxRecDepth 65536 in
set_option maxHeartbeats 40000000 in
theorem rmPcin (l : Launch) (Z : State) (av0 : Array Value) (hw : ∀ d ∈ tables_1, d.before av0 Z = true) (ws : List Jvm.Cond) (p0 : Int32) (p1 : Int32) (h0 : Heap) (n0 : Nat) (Z0 : n0 ≤ h0.size) (h1 : ¬ p0 < (0 : Int32)) (h2 : p0 < p1) :
    own_Met l mN8 jdk_41_method_11_code 3 (some .int) ws ({ frames := 0, cells := 0, slots := 0, locals := 0 } : Room) #[(.int p0), (.int p1), .null] Z h0 (QrmPcin Z p0 p1 h0 n0) := by
  refine MetFree.of_bodySF (plainFor_of_name pn_Preconditions) hisR ?_
  intro p e s m args below meth c s₁ Bd hml0 hP hK
  obtain ⟨rfl, hZ, hh⟩ := hP
  have hml : c.maxLocals = 3 := hml0
  obtain ⟨hx, hby, hown, hnm, X0, e0⟩ := own_start Bd hml0 hh
  have N0 := Fr.nil n0
  have pre0 : ∀ t, oS p e below s₁ (mkF m 0 #[iv p0, iv p1, .val .null] []) t → Steps p.tables e below (s₁.setTop (entryFrame m #[(.int p0), (.int p1), .null] 3)) t := fun t k => castTop (by first | (simp [entryFrame, mkF, argsToLocals, Value.category]; done) | rfl) k
  have S1 : ∀ t, oS p e below s₁ (mkF m 17 #[iv p0, iv p1, .val .null] [(.int p0)]) t → oS p e below s₁ (mkF m 0 #[iv p0, iv p1, .val .null] []) t := fun t k => id (by
    show oS p e below s₁ (mkF m 0 #[iv p0, iv p1, .val .null] []) _
    refine XS.iloadN X0.here hx rfl (hb hby d18_0) rfl ?_
    refine XS.ifNo X0.here hx rfl (hb hby d18_1) rfl (XT.i0_lt_f h1) ?_
    refine XS.iloadN X0.here hx rfl (hb hby d18_4) rfl ?_
    refine XS.iloadN X0.here hx rfl (hb hby d18_5) rfl ?_
    refine XS.icmpYes X0.here hx rfl (pc0 := 6) (pc' := 16) rfl (hb hby d18_6) rfl (XT.ii_lt_t h2) (by decide) (by decide) ?_
    refine XS.iloadN X0.here hx rfl (hb hby d18_16) rfl ?_
    exact k)
  obtain ⟨fs, hr, hrun, hended, hW, hsame⟩ := X0.leave (v := some (.int p0)) (fun h => by rw [Bd.returns] at h; cases h)
  refine ⟨_, _, pre0 _ (S1 _ ?_), hrun, hended, _, _, rfl, ?_, ⟨_, rfl⟩, hW, hsame.mono (by decide) (by decide)⟩
  · exact retI X0 hx Bd.returns (hb hby d18_17) hr
  · show QrmPcin Z p0 p1 h0 n0 _ s₁.heap _
    rw [e0]
    exact ⟨rfl, N0, rfl⟩
def Qsci (Z : State) (p0 p1 : Int32) (h0 : Heap) (n0 : Nat) (v : Option Value) (h : Heap) (L : List Loc) : Prop := v = none ∧ Fr n0 L ∧ h = h0
theorem d17_0 : decode jdk_42_method_155_code 0 = .ok (.iload_n 0, 1) := by decide +kernel
theorem d17_1 : decode jdk_42_method_155_code 1 = .ok (.iload_n 1, 1) := by decide +kernel
theorem d17_2 : decode jdk_42_method_155_code 2 = .ok (.getstatic 1053, 3) := by decide +kernel
theorem d17_5 : decode jdk_42_method_155_code 5 = .ok (.invokestatic 1059, 3) := by decide +kernel
theorem d17_8 : decode jdk_42_method_155_code 8 = .ok (.pop, 1) := by decide +kernel
theorem d17_9 : decode jdk_42_method_155_code 9 = .ok (.return_, 1) := by decide +kernel
theorem pd__IILjava_util_function_BiFunction_I : parseMethodDescriptor "(IILjava/util/function/BiFunction;)I" = some ⟨[.int, .int, (.object "java/util/function/BiFunction")], some .int⟩ := by decide +kernel
set_option maxRecDepth 65536 in
set_option maxHeartbeats 40000000 in
theorem rmScin (l : Launch) (Z : State) (av0 : Array Value) (hw : ∀ d ∈ tables_1, d.before av0 Z = true) (ws : List Jvm.Cond) (p0 : Int32) (p1 : Int32) (h0 : Heap) (n0 : Nat) (Z0 : n0 ≤ h0.size) (hF : Sta Z h0 "jdk/internal/util/Preconditions" "SIOOBE_FORMATTER" "Ljava/util/function/BiFunction;" .null) (h1 : ¬ p0 < (0 : Int32)) (h2 : p0 < p1) :
    own_Met l mN9 jdk_42_method_155_code 2 none ws ({ frames := 1, cells := 0, slots := 0, locals := 14 } : Room) #[(.int p0), (.int p1)] Z h0 (Qsci Z p0 p1 h0 n0) := by
  refine MetFree.of_bodySF (plainFor_of_name pn_String) hisR ?_
  intro p e s m args below meth c s₁ Bd hml0 hP hK
  obtain ⟨rfl, hZ, hh⟩ := hP
  have hml : c.maxLocals = 2 := hml0
  obtain ⟨hx, hby, hown, hnm, X0, e0⟩ := own_start Bd hml0 hh
  have N0 := Fr.nil n0
  have pre0 : ∀ t, oS p e below s₁ (mkF m 0 #[iv p0, iv p1] []) t → Steps p.tables e below (s₁.setTop (entryFrame m #[(.int p0), (.int p1)] 2)) t := fun t k => castTop (by first | (simp [entryFrame, mkF, argsToLocals, Value.category]; done) | rfl) k
  obtain ⟨T1, X1, e1, st1⟩ := getS2 X0 hx hZ hown (host := "") (Or.inl (hw _ (own_w 77 rfl))) Via.refl e0 hF (g := (mkF m 2 #[iv p0, iv p1] [(.int p1), (.int p0)])) rfl (hb hby d17_2)
  obtain ⟨_, T2, Lc2, X2, hQ2, st2⟩ := own_callS (W := 0) (y := mN8) X1 hx hZ hown (hw _ (own_w 79 rfl)) (hw _ (own_w 80 rfl)) (hw _ (own_w 78 rfl)) (hw _ (own_w 81 rfl)) (by decide) (rmPcin l Z av0 hw [] p0 p1  h0 n0 Z0 h1 h2) (by decide) (by decide) (g := (mkF m 5 #[iv p0, iv p1] [.null, (.int p1), (.int p0)])) rfl (by rw [hml]; rfl) (argsL := [(.int p0), (.int p1), .null]) (rest := []) (lenOf pd__IILjava_util_function_BiFunction_I rfl) rfl (hb hby d17_5) rfl e1 (by decide : 0 + 0 ≤ _) (by decide : 0 + 0 ≤ _)
  obtain ⟨rfl, N2q, hh2⟩ := hQ2
  have N2 := Fr.app N0 N2q
  have e2 : T2.heap = h0 := hh2
  have S3 : ∀ t, oS p e below T2 (mkF m 9 #[iv p0, iv p1] []) t → oS p e below s₁ (mkF m 0 #[iv p0, iv p1] []) t := fun t k => id (by
    show oS p e below s₁ (mkF m 0 #[iv p0, iv p1] []) _
    refine XS.iloadN X0.here hx rfl (hb hby d17_0) rfl ?_
    refine XS.iloadN X0.here hx rfl (hb hby d17_1) rfl ?_
    refine st1 _ ?_
    refine st2 _ ?_
    refine XT.pop X2.here hx rfl (hb hby d17_8) rfl rfl ?_
    exact k)
  obtain ⟨fs, hr, hrun, hended, hW, hsame⟩ := X2.leave (v := none) (fun _ => rfl)
  refine ⟨_, _, pre0 _ (S3 _ ?_), hrun, hended, _, _, rfl, ?_, ⟨_, rfl⟩, hW, hsame.mono (by decide) (by decide)⟩
  · exact X2.returnOut hx Bd.returns (hb hby d17_9) hr
  · show Qsci Z p0 p1 h0 n0 _ T2.heap _
    rw [e2]
    exact ⟨rfl, N2, rfl⟩
def QrmPcir (Z : State) (p0 : Int32) (p1 : Int32) (aF : Addr) (h0 : Heap) (n0 : Nat) (v : Option Value) (h : Heap) (L : List Loc) : Prop := v = some (.int p0) ∧ Fr n0 L ∧ h = h0
set_option maxRecDepth 65536 in
set_option maxHeartbeats 40000000 in
theorem rmPcir (l : Launch) (Z : State) (av0 : Array Value) (hw : ∀ d ∈ tables_1, d.before av0 Z = true) (ws : List Jvm.Cond) (p0 : Int32) (p1 : Int32) (aF : Addr) (h0 : Heap) (n0 : Nat) (Z0 : n0 ≤ h0.size) (h1 : ¬ p0 < (0 : Int32)) (h2 : p0 < p1) :
    own_Met l mN8 jdk_41_method_11_code 3 (some .int) ws ({ frames := 0, cells := 0, slots := 0, locals := 0 } : Room) #[(.int p0), (.int p1), (.ref aF)] Z h0 (QrmPcir Z p0 p1 aF h0 n0) := by
  refine MetFree.of_bodySF (plainFor_of_name pn_Preconditions) hisR ?_
  intro p e s m args below meth c s₁ Bd hml0 hP hK
  obtain ⟨rfl, hZ, hh⟩ := hP
  have hml : c.maxLocals = 3 := hml0
  obtain ⟨hx, hby, hown, hnm, X0, e0⟩ := own_start Bd hml0 hh
  have N0 := Fr.nil n0
  have pre0 : ∀ t, oS p e below s₁ (mkF m 0 #[iv p0, iv p1, rv aF] []) t → Steps p.tables e below (s₁.setTop (entryFrame m #[(.int p0), (.int p1), (.ref aF)] 3)) t := fun t k => castTop (by first | (simp [entryFrame, mkF, argsToLocals, Value.category]; done) | rfl) k
  have S1 : ∀ t, oS p e below s₁ (mkF m 17 #[iv p0, iv p1, rv aF] [(.int p0)]) t → oS p e below s₁ (mkF m 0 #[iv p0, iv p1, rv aF] []) t := fun t k => id (by
    show oS p e below s₁ (mkF m 0 #[iv p0, iv p1, rv aF] []) _
    refine XS.iloadN X0.here hx rfl (hb hby d18_0) rfl ?_
    refine XS.ifNo X0.here hx rfl (hb hby d18_1) rfl (XT.i0_lt_f h1) ?_
    refine XS.iloadN X0.here hx rfl (hb hby d18_4) rfl ?_
    refine XS.iloadN X0.here hx rfl (hb hby d18_5) rfl ?_
    refine XS.icmpYes X0.here hx rfl (pc0 := 6) (pc' := 16) rfl (hb hby d18_6) rfl (XT.ii_lt_t h2) (by decide) (by decide) ?_
    refine XS.iloadN X0.here hx rfl (hb hby d18_16) rfl ?_
    exact k)
  obtain ⟨fs, hr, hrun, hended, hW, hsame⟩ := X0.leave (v := some (.int p0)) (fun h => by rw [Bd.returns] at h; cases h)
  refine ⟨_, _, pre0 _ (S1 _ ?_), hrun, hended, _, _, rfl, ?_, ⟨_, rfl⟩, hW, hsame.mono (by decide) (by decide)⟩
  · exact retI X0 hx Bd.returns (hb hby d18_17) hr
  · show QrmPcir Z p0 p1 aF h0 n0 _ s₁.heap _
    rw [e0]
    exact ⟨rfl, N0, rfl⟩
set_option maxRecDepth 65536 in
set_option maxHeartbeats 40000000 in
theorem rmScir (l : Launch) (Z : State) (av0 : Array Value) (hw : ∀ d ∈ tables_1, d.before av0 Z = true) (ws : List Jvm.Cond) (p0 : Int32) (p1 : Int32) (aF : Addr) (h0 : Heap) (n0 : Nat) (Z0 : n0 ≤ h0.size) (hF : Sta Z h0 "jdk/internal/util/Preconditions" "SIOOBE_FORMATTER" "Ljava/util/function/BiFunction;" (.ref aF)) (h1 : ¬ p0 < (0 : Int32)) (h2 : p0 < p1) :
    own_Met l mN9 jdk_42_method_155_code 2 none ws ({ frames := 1, cells := 0, slots := 0, locals := 14 } : Room) #[(.int p0), (.int p1)] Z h0 (Qsci Z p0 p1 h0 n0) := by
  refine MetFree.of_bodySF (plainFor_of_name pn_String) hisR ?_
  intro p e s m args below meth c s₁ Bd hml0 hP hK
  obtain ⟨rfl, hZ, hh⟩ := hP
  have hml : c.maxLocals = 2 := hml0
  obtain ⟨hx, hby, hown, hnm, X0, e0⟩ := own_start Bd hml0 hh
  have N0 := Fr.nil n0
  have pre0 : ∀ t, oS p e below s₁ (mkF m 0 #[iv p0, iv p1] []) t → Steps p.tables e below (s₁.setTop (entryFrame m #[(.int p0), (.int p1)] 2)) t := fun t k => castTop (by first | (simp [entryFrame, mkF, argsToLocals, Value.category]; done) | rfl) k
  obtain ⟨T1, X1, e1, st1⟩ := getS2 X0 hx hZ hown (host := "") (Or.inl (hw _ (own_w 77 rfl))) Via.refl e0 hF (g := (mkF m 2 #[iv p0, iv p1] [(.int p1), (.int p0)])) rfl (hb hby d17_2)
  obtain ⟨_, T2, Lc2, X2, hQ2, st2⟩ := own_callS (W := 0) (y := mN8) X1 hx hZ hown (hw _ (own_w 79 rfl)) (hw _ (own_w 80 rfl)) (hw _ (own_w 78 rfl)) (hw _ (own_w 81 rfl)) (by decide) (rmPcir l Z av0 hw [] p0 p1 aF h0 n0 Z0 h1 h2) (by decide) (by decide) (g := (mkF m 5 #[iv p0, iv p1] [(.ref aF), (.int p1), (.int p0)])) rfl (by rw [hml]; rfl) (argsL := [(.int p0), (.int p1), (.ref aF)]) (rest := []) (lenOf pd__IILjava_util_function_BiFunction_I rfl) rfl (hb hby d17_5) rfl e1 (by decide : 0 + 0 ≤ _) (by decide : 0 + 0 ≤ _)
  obtain ⟨rfl, N2q, hh2⟩ := hQ2
  have N2 := Fr.app N0 N2q
  have e2 : T2.heap = h0 := hh2
  have S3 : ∀ t, oS p e below T2 (mkF m 9 #[iv p0, iv p1] []) t → oS p e below s₁ (mkF m 0 #[iv p0, iv p1] []) t := fun t k => id (by
    show oS p e below s₁ (mkF m 0 #[iv p0, iv p1] []) _
    refine XS.iloadN X0.here hx rfl (hb hby d17_0) rfl ?_
    refine XS.iloadN X0.here hx rfl (hb hby d17_1) rfl ?_
    refine st1 _ ?_
    refine st2 _ ?_
    refine XT.pop X2.here hx rfl (hb hby d17_8) rfl rfl ?_
    exact k)
  obtain ⟨fs, hr, hrun, hended, hW, hsame⟩ := X2.leave (v := none) (fun _ => rfl)
  refine ⟨_, _, pre0 _ (S3 _ ?_), hrun, hended, _, _, rfl, ?_, ⟨_, rfl⟩, hW, hsame.mono (by decide) (by decide)⟩
  · exact X2.returnOut hx Bd.returns (hb hby d17_9) hr
  · show Qsci Z p0 p1 h0 n0 _ T2.heap _
    rw [e2]
    exact ⟨rfl, N2, rfl⟩
theorem rmSci (l : Launch) (Z : State) (av0 : Array Value) (hw : ∀ d ∈ tables_1, d.before av0 Z = true) (ws : List Jvm.Cond) (p0 p1 : Int32) (fm : Value) (h0 : Heap) (n0 : Nat) (Z0 : n0 ≤ h0.size) (hfm : fm.isRef = true) (hF : Sta Z h0 "jdk/internal/util/Preconditions" "SIOOBE_FORMATTER" "Ljava/util/function/BiFunction;" fm) (h1 : ¬ p0 < (0 : Int32)) (h2 : p0 < p1) :
    MetFree l mN9 (head1 (Jvm.Cond.code mN9 jdk_42_method_155_code 2 none :: ws) ({ frames := 1, cells := 0, slots := 0, locals := 14 } : Room)) (fun aU U => aU = #[(.int p0), (.int p1)] ∧ Z.Warmed39 U.vm ∧ U.heap = h0) (fun _ _ _ _ _ => True) (fun _ U oU U' => ∃ vU LU, oU = .returned vU ∧ Qsci Z p0 p1 h0 n0 vU U'.heap LU ∧ FrameEnd U oU U' LU ({ frames := 1, cells := 0, slots := 0, locals := 14 } : Room).cells ({ frames := 1, cells := 0, slots := 0, locals := 14 } : Room).slots) := by
  rcases ref_cases hfm with rfl | ⟨aF, rfl⟩
  · exact rmScin l Z av0 hw ws p0 p1 h0 n0 Z0 hF h1 h2
  · exact rmScir l Z av0 hw ws p0 p1 aF h0 n0 Z0 hF h1 h2
theorem d15_0 : decode jdk_42_method_154_code 0 = .ok (.getstatic 38, 3) := by decide +kernel
theorem d15_3 : decode jdk_42_method_154_code 3 = .ok (.ifCond .eq 14, 3) := by decide +kernel
theorem d15_6 : decode jdk_42_method_154_code 6 = .ok (.aload_n 0, 1) := by decide +kernel
theorem d15_7 : decode jdk_42_method_154_code 7 = .ok (.getfield 15, 3) := by decide +kernel
theorem d15_10 : decode jdk_42_method_154_code 10 = .ok (.ifCond .ne 7, 3) := by decide +kernel
theorem d15_17 : decode jdk_42_method_154_code 17 = .ok (.iconst 0, 1) := by decide +kernel
theorem d15_18 : decode jdk_42_method_154_code 18 = .ok (.ireturn, 1) := by decide +kernel
def QrmLat_1 (Z : State) (a0 : Addr) (wC : Int32) (h0 : Heap) (n0 : Nat) (v : Option Value) (h : Heap) (L : List Loc) : Prop := v = some (.int 0) ∧ Fr n0 L ∧ h = h0
set_option maxRecDepth 65536 in
set_option maxHeartbeats 40000000 in
theorem rmLat_1 (l : Launch) (Z : State) (av0 : Array Value) (hw : ∀ d ∈ tables_1, d.before av0 Z = true) (ws : List Jvm.Cond) (a0 : Addr) (wC : Int32) (h0 : Heap) (n0 : Nat) (Z0 : n0 ≤ h0.size) (hS : Sta Z h0 "java/lang/String" "COMPACT_STRINGS" "Z" (.int wC)) (hw0 : ¬ wC = (0 : Int32)) (hC : Fld Z h0 a0 "java/lang/String" "coder" "B" (.int (1 : Int32))) :
    own_Met l mN10 jdk_42_method_154_code 1 (some .boolean) ws ({ frames := 0, cells := 0, slots := 0, locals := 0 } : Room) #[(.ref a0)] Z h0 (QrmLat_1 Z a0 wC h0 n0) := by
  refine MetFree.of_bodySF (plainFor_of_name pn_String) hisR ?_
  intro p e s m args below meth c s₁ Bd hml0 hP hK
  obtain ⟨rfl, hZ, hh⟩ := hP
  have hml : c.maxLocals = 1 := hml0
  obtain ⟨hx, hby, hown, hnm, X0, e0⟩ := own_start Bd hml0 hh
  have N0 := Fr.nil n0
  have pre0 : ∀ t, oS p e below s₁ (mkF m 0 #[rv a0] []) t → Steps p.tables e below (s₁.setTop (entryFrame m #[(.ref a0)] 1)) t := fun t k => castTop (by first | (simp [entryFrame, mkF, argsToLocals, Value.category]; done) | rfl) k
  obtain ⟨T1, X1, e1, st1⟩ := getS2 X0 hx hZ hown (host := "") (Or.inl (hw _ (own_w 25 rfl))) Via.refl e0 hS (g := (mkF m 0 #[rv a0] [])) rfl (hb hby d15_0)
  obtain ⟨T2, X2, e2, st2⟩ := getF X1 hx hZ hown (host := "") (Or.inl (hw _ (own_w 21 rfl))) Via.refl e1 hC (g := (mkF m 7 #[rv a0] [(.ref a0)])) rfl rfl (hb hby d15_7)
  have S3 : ∀ t, oS p e below T2 (mkF m 18 #[rv a0] [(.int 0)]) t → oS p e below s₁ (mkF m 0 #[rv a0] []) t := fun t k => id (by
    show oS p e below s₁ (mkF m 0 #[rv a0] []) _
    refine st1 _ ?_
    refine XS.ifNo X1.here hx rfl (hb hby d15_3) rfl (XT.i0_eq_f hw0) ?_
    refine XS.aloadN X1.here hx rfl (hb hby d15_6) rfl rfl ?_
    refine st2 _ ?_
    refine XS.ifYes X2.here hx rfl (pc0 := 10) (pc' := 17) rfl (hb hby d15_10) rfl (XT.i0_ne_t (by decide)) (by decide) (by decide) ?_
    refine XT.iconstV X2.here hx rfl (0 : Int32) (hb hby d15_17) (by decide) ?_
    exact k)
  obtain ⟨fs, hr, hrun, hended, hW, hsame⟩ := X2.leave (v := some (.int 0)) (fun h => by rw [Bd.returns] at h; cases h)
  refine ⟨_, _, pre0 _ (S3 _ ?_), hrun, hended, _, _, rfl, ?_, ⟨_, rfl⟩, hW, hsame.mono (by decide) (by decide)⟩
  · exact retN X2 hx (t := .boolean) Bd.returns (by simp) (hb hby d15_18) hr
  · show QrmLat_1 Z a0 wC h0 n0 _ T2.heap _
    rw [e2]
    exact ⟨congrArg (fun z => some (Value.int z)) (by decide), N0, rfl⟩
theorem d30_0 : decode jdk_52_method_6_code 0 = .ok (.aload_n 0, 1) := by decide +kernel
theorem d30_1 : decode jdk_52_method_6_code 1 = .ok (.arraylength, 1) := by decide +kernel
theorem d30_2 : decode jdk_52_method_6_code 2 = .ok (.iconst 1, 1) := by decide +kernel
theorem d30_3 : decode jdk_52_method_6_code 3 = .ok (.ishr, 1) := by decide +kernel
theorem d30_4 : decode jdk_52_method_6_code 4 = .ok (.ireturn, 1) := by decide +kernel
theorem pn_StringUTF16 : plainName "java/lang/StringUTF16" = true := by first | (simp [plainName, overriddenIn]; done) | decide +kernel
def QrmUlen (Z : State) (a0 : Addr) (kb : ClassId) (z : Int32) (vs : List Value) (h0 : Heap) (n0 : Nat) (v : Option Value) (h : Heap) (L : List Loc) : Prop := v = some (.int (z >>> ((1 : Int32) &&& 31))) ∧ Fr n0 L ∧ h = h0
set_option maxRecDepth 65536 in
set_option maxHeartbeats 40000000 in
theorem rmUlen (l : Launch) (Z : State) (av0 : Array Value) (hw : ∀ d ∈ tables_1, d.before av0 Z = true) (ws : List Jvm.Cond) (a0 : Addr) (kb : ClassId) (z : Int32) (vs : List Value) (h0 : Heap) (n0 : Nat) (Z0 : n0 ≤ h0.size) (hB : Arv Z h0 a0 kb .byte z vs (.int (0 : Int32))) :
    own_Met l mN11 jdk_52_method_6_code 1 (some .int) ws ({ frames := 0, cells := 0, slots := 0, locals := 0 } : Room) #[(.ref a0)] Z h0 (QrmUlen Z a0 kb z vs h0 n0) := by
  refine MetFree.of_bodySF (plainFor_of_name pn_StringUTF16) hisR ?_
  intro p e s m args below meth c s₁ Bd hml0 hP hK
  obtain ⟨rfl, hZ, hh⟩ := hP
  have hml : c.maxLocals = 1 := hml0
  obtain ⟨hx, hby, hown, hnm, X0, e0⟩ := own_start Bd hml0 hh
  have N0 := Fr.nil n0
  have pre0 : ∀ t, oS p e below s₁ (mkF m 0 #[rv a0] []) t → Steps p.tables e below (s₁.setTop (entryFrame m #[(.ref a0)] 1)) t := fun t k => castTop (by first | (simp [entryFrame, mkF, argsToLocals, Value.category]; done) | rfl) k
  obtain ⟨cl1, Ar1, qk1, Sz1, Ng1, Hs1, Gs1⟩ := id hB
  have S2 : ∀ t, oS p e below s₁ (mkF m 4 #[rv a0] [(.int (z >>> ((1 : Int32) &&& 31)))]) t → oS p e below s₁ (mkF m 0 #[rv a0] []) t := fun t k => id (by
    show oS p e below s₁ (mkF m 0 #[rv a0] []) _
    refine XS.aloadN X0.here hx rfl (hb hby d30_0) rfl rfl ?_
    refine X0.arraylength hx (by rw [e0]; exact Ar1.1) (State.isArrayOf_alike hZ.alike Ar1.2.1) (g := (mkF m 1 #[rv a0] [(.ref a0)])) rfl rfl (hb hby d30_1) _ ?_
    rw [len_of Sz1 Ng1]
    refine XT.iconstV X0.here hx rfl (1 : Int32) (hb hby d30_2) (by decide) ?_
    refine XT.ishr X0.here hx rfl (hb hby d30_3) rfl ?_
    exact k)
  obtain ⟨fs, hr, hrun, hended, hW, hsame⟩ := X0.leave (v := some (.int (z >>> ((1 : Int32) &&& 31)))) (fun h => by rw [Bd.returns] at h; cases h)
  refine ⟨_, _, pre0 _ (S2 _ ?_), hrun, hended, _, _, rfl, ?_, ⟨_, rfl⟩, hW, hsame.mono (by decide) (by decide)⟩
  · exact retI X0 hx Bd.returns (hb hby d30_4) hr
  · show QrmUlen Z a0 kb z vs h0 n0 _ s₁.heap _
    rw [e0]
    exact ⟨rfl, N0, rfl⟩
theorem d29_0 : decode jdk_52_method_91_code 0 = .ok (.iload_n 0, 1) := by decide +kernel
theorem d29_1 : decode jdk_52_method_91_code 1 = .ok (.aload_n 1, 1) := by decide +kernel
theorem d29_2 : decode jdk_52_method_91_code 2 = .ok (.invokestatic 48, 3) := by decide +kernel
theorem d29_5 : decode jdk_52_method_91_code 5 = .ok (.invokestatic 414, 3) := by decide +kernel
theorem d29_8 : decode jdk_52_method_91_code 8 = .ok (.return_, 1) := by decide +kernel
theorem pd__B_I : parseMethodDescriptor "([B)I" = some ⟨[(.array .byte)], some .int⟩ := by decide +kernel
theorem pd__II_V : parseMethodDescriptor "(II)V" = some ⟨[.int, .int], none⟩ := by decide +kernel
def QrmUci (Z : State) (a0 : Addr) (kb : ClassId) (z : Int32) (vs : List Value) (p1 : Int32) (fm : Value) (h0 : Heap) (n0 : Nat) (v : Option Value) (h : Heap) (L : List Loc) : Prop := v = none ∧ Fr n0 L ∧ h = h0
set_option maxRecDepth 65536 in
set_option maxHeartbeats 40000000 in
theorem rmUci (l : Launch) (Z : State) (av0 : Array Value) (hw : ∀ d ∈ tables_1, d.before av0 Z = true) (ws : List Jvm.Cond) (a0 : Addr) (kb : ClassId) (z : Int32) (vs : List Value) (p1 : Int32) (fm : Value) (h0 : Heap) (n0 : Nat) (Z0 : n0 ≤ h0.size) (hB : Arv Z h0 a0 kb .byte z vs (.int (0 : Int32))) (hfm : fm.isRef = true) (hF : Sta Z h0 "jdk/internal/util/Preconditions" "SIOOBE_FORMATTER" "Ljava/util/function/BiFunction;" fm) (h1 : ¬ p1 < (0 : Int32)) (h2 : p1 < (z >>> ((1 : Int32) &&& 31))) :
    own_Met l mN12 jdk_52_method_91_code 2 none ws ({ frames := 2, cells := 0, slots := 0, locals := 27 } : Room) #[(.int p1), (.ref a0)] Z h0 (QrmUci Z a0 kb z vs p1 fm h0 n0) := by
  refine MetFree.of_bodySF (plainFor_of_name pn_StringUTF16) hisR ?_
  intro p e s m args below meth c s₁ Bd hml0 hP hK
  obtain ⟨rfl, hZ, hh⟩ := hP
  have hml : c.maxLocals = 2 := hml0
  obtain ⟨hx, hby, hown, hnm, X0, e0⟩ := own_start Bd hml0 hh
  have N0 := Fr.nil n0
  have pre0 : ∀ t, oS p e below s₁ (mkF m 0 #[iv p1, rv a0] []) t → Steps p.tables e below (s₁.setTop (entryFrame m #[(.int p1), (.ref a0)] 2)) t := fun t k => castTop (by first | (simp [entryFrame, mkF, argsToLocals, Value.category]; done) | rfl) k
  obtain ⟨_, T1, Lc1, X1, hQ1, st1⟩ := own_callS (W := 1) (y := mN11) X0 hx hZ hown (hw _ (own_w 121 rfl)) (hw _ (own_w 122 rfl)) (hw _ (own_w 39 rfl)) (hw _ (own_w 123 rfl)) (by decide) (rmUlen l Z av0 hw [] a0 kb z vs h0 n0 Z0 hB) (by decide) (by decide) (g := (mkF m 2 #[iv p1, rv a0] [(.ref a0), (.int p1)])) rfl (by rw [hml]; rfl) (argsL := [(.ref a0)]) (rest := [(.int p1)]) (lenOf pd__B_I rfl) rfl (hb hby d29_2) rfl e0 (by decide : 0 + 0 ≤ _) (by decide : 0 + 0 ≤ _)
  obtain ⟨rfl, N1q, hh1⟩ := hQ1
  have N1 := Fr.app N0 N1q
  have e1 : T1.heap = h0 := hh1
  obtain ⟨_, T2, Lc2, X2, hQ2, st2⟩ := own_callS (W := 0) (y := mN9) X1 hx hZ hown (hw _ (own_w 124 rfl)) (hw _ (own_w 75 rfl)) (hw _ (own_w 2 rfl)) (hw _ (own_w 76 rfl)) (by decide) (rmSci l Z av0 hw [] p1 (z >>> ((1 : Int32) &&& 31)) fm h0 n0 Z0 hfm hF h1 h2) (by decide) (by decide) (g := (mkF m 5 #[iv p1, rv a0] [(.int (z >>> ((1 : Int32) &&& 31))), (.int p1)])) rfl (by rw [hml]; rfl) (argsL := [(.int p1), (.int (z >>> ((1 : Int32) &&& 31)))]) (rest := []) (lenOf pd__II_V rfl) rfl (hb hby d29_5) rfl e1 (by decide : 0 + 0 ≤ _) (by decide : 0 + 0 ≤ _)
  obtain ⟨rfl, N2q, hh2⟩ := hQ2
  have N2 := Fr.app N1 N2q
  have e2 : T2.heap = h0 := hh2
  have S3 : ∀ t, oS p e below T2 (mkF m 8 #[iv p1, rv a0] []) t → oS p e below s₁ (mkF m 0 #[iv p1, rv a0] []) t := fun t k => id (by
    show oS p e below s₁ (mkF m 0 #[iv p1, rv a0] []) _
    refine XS.iloadN X0.here hx rfl (hb hby d29_0) rfl ?_
    refine XS.aloadN X0.here hx rfl (hb hby d29_1) rfl rfl ?_
    refine st1 _ ?_
    refine st2 _ ?_
    exact k)
  obtain ⟨fs, hr, hrun, hended, hW, hsame⟩ := X2.leave (v := none) (fun _ => rfl)
  refine ⟨_, _, pre0 _ (S3 _ ?_), hrun, hended, _, _, rfl, ?_, ⟨_, rfl⟩, hW, hsame.mono (by decide) (by decide)⟩
  · exact X2.returnOut hx Bd.returns (hb hby d29_8) hr
  · show QrmUci Z a0 kb z vs p1 fm h0 n0 _ T2.heap _
    rw [e2]
    exact ⟨rfl, N2, rfl⟩
theorem d27_0 : decode jdk_52_method_5_code 0 = .ok (.getstatic 44, 3) := by decide +kernel
theorem d27_3 : decode jdk_52_method_5_code 3 = .ok (.ifCond .ne 25, 3) := by decide +kernel
theorem d27_28 : decode jdk_52_method_5_code 28 = .ok (.iload_n 1, 1) := by decide +kernel
theorem d27_29 : decode jdk_52_method_5_code 29 = .ok (.iconst 1, 1) := by decide +kernel
theorem d27_30 : decode jdk_52_method_5_code 30 = .ok (.ishl, 1) := by decide +kernel
theorem d27_31 : decode jdk_52_method_5_code 31 = .ok (.istore_n 1, 1) := by decide +kernel
theorem d27_32 : decode jdk_52_method_5_code 32 = .ok (.aload_n 0, 1) := by decide +kernel
theorem d27_33 : decode jdk_52_method_5_code 33 = .ok (.iload_n 1, 1) := by decide +kernel
theorem d27_34 : decode jdk_52_method_5_code 34 = .ok (.iinc 1 1, 3) := by decide +kernel
theorem d27_37 : decode jdk_52_method_5_code 37 = .ok (.baload, 1) := by decide +kernel
theorem d27_38 : decode jdk_52_method_5_code 38 = .ok (.sipush 255, 3) := by decide +kernel
theorem d27_41 : decode jdk_52_method_5_code 41 = .ok (.iand, 1) := by decide +kernel
theorem d27_42 : decode jdk_52_method_5_code 42 = .ok (.getstatic 59, 3) := by decide +kernel
theorem d27_45 : decode jdk_52_method_5_code 45 = .ok (.ishl, 1) := by decide +kernel
theorem d27_46 : decode jdk_52_method_5_code 46 = .ok (.aload_n 0, 1) := by decide +kernel
theorem d27_47 : decode jdk_52_method_5_code 47 = .ok (.iload_n 1, 1) := by decide +kernel
theorem d27_48 : decode jdk_52_method_5_code 48 = .ok (.baload, 1) := by decide +kernel
theorem d27_49 : decode jdk_52_method_5_code 49 = .ok (.sipush 255, 3) := by decide +kernel
theorem d27_52 : decode jdk_52_method_5_code 52 = .ok (.iand, 1) := by decide +kernel
theorem d27_53 : decode jdk_52_method_5_code 53 = .ok (.getstatic 63, 3) := by decide +kernel
theorem d27_56 : decode jdk_52_method_5_code 56 = .ok (.ishl, 1) := by decide +kernel
theorem d27_57 : decode jdk_52_method_5_code 57 = .ok (.ior, 1) := by decide +kernel
theorem d27_58 : decode jdk_52_method_5_code 58 = .ok (.i2c, 1) := by decide +kernel
theorem d27_59 : decode jdk_52_method_5_code 59 = .ok (.ireturn, 1) := by decide +kernel
def QrmGc (Z : State) (a0 : Addr) (ka : ClassId) (z : Int32) (vs : List Value) (p1 : Int32) (x : Int32) (y : Int32) (h0 : Heap) (n0 : Nat) (v : Option Value) (h : Heap) (L : List Loc) : Prop := v = some (.int (own_gc x y)) ∧ Fr n0 L ∧ h = h0
set_option maxRecDepth 65536 in
set_option maxHeartbeats 40000000 in
theorem rmGc (l : Launch) (Z : State) (av0 : Array Value) (hw : ∀ d ∈ tables_1, d.before av0 Z = true) (ws : List Jvm.Cond) (a0 : Addr) (ka : ClassId) (z : Int32) (vs : List Value) (p1 : Int32) (x : Int32) (y : Int32) (h0 : Heap) (n0 : Nat) (Z0 : n0 ≤ h0.size) (hA : Arv Z h0 a0 ka .byte z vs (.int (0 : Int32))) (sA : Sta Z h0 "java/lang/StringUTF16" "$assertionsDisabled" "Z" (.int (1 : Int32))) (sH : Sta Z h0 "java/lang/StringUTF16" "HI_BYTE_SHIFT" "I" (.int (0 : Int32))) (sL : Sta Z h0 "java/lang/StringUTF16" "LO_BYTE_SHIFT" "I" (.int (8 : Int32))) (i1 : ¬ (p1 <<< ((1 : Int32) &&& 31)) < 0 ∧ (p1 <<< ((1 : Int32) &&& 31)) < z) (i2 : ¬ ((p1 <<< ((1 : Int32) &&& 31)) + (1 : Int32)) < 0 ∧ ((p1 <<< ((1 : Int32) &&& 31)) + (1 : Int32)) < z) (t1 : vs.getD (p1 <<< ((1 : Int32) &&& 31)).toNatClampNeg (.int (0 : Int32)) = .int x) (t2 : vs.getD ((p1 <<< ((1 : Int32) &&& 31)) + (1 : Int32)).toNatClampNeg (.int (0 : Int32)) = .int y) :
    own_Met l mN13 jdk_52_method_5_code 2 (some .char) ws ({ frames := 0, cells := 0, slots := 0, locals := 0 } : Room) #[(.ref a0), (.int p1)] Z h0 (QrmGc Z a0 ka z vs p1 x y h0 n0) := by
  refine MetFree.of_bodySF (plainFor_of_name pn_StringUTF16) hisR ?_
  intro p e s m args below meth c s₁ Bd hml0 hP hK
  obtain ⟨rfl, hZ, hh⟩ := hP
  have hml : c.maxLocals = 2 := hml0
  obtain ⟨hx, hby, hown, hnm, X0, e0⟩ := own_start Bd hml0 hh
  have N0 := Fr.nil n0
  have pre0 : ∀ t, oS p e below s₁ (mkF m 0 #[rv a0, iv p1] []) t → Steps p.tables e below (s₁.setTop (entryFrame m #[(.ref a0), (.int p1)] 2)) t := fun t k => castTop (by first | (simp [entryFrame, mkF, argsToLocals, Value.category]; done) | rfl) k
  obtain ⟨T1, X1, e1, st1⟩ := getS2 X0 hx hZ hown (host := "") (Or.inl (hw _ (own_w 99 rfl))) Via.refl e0 sA (g := (mkF m 0 #[rv a0, iv p1] [])) rfl (hb hby d27_0)
  obtain ⟨cl2, Ar2, qk2, Sz2, Ng2, Hs2, Gs2⟩ := id hA
  have hin2 : ¬ ((p1 <<< ((1 : Int32) &&& 31)) < 0 ∨ cl2.slots.size ≤ ((p1 <<< ((1 : Int32) &&& 31))).toNatClampNeg) := inb_of Sz2 i1
  have hat2 : cl2.slots[((p1 <<< ((1 : Int32) &&& 31))).toNatClampNeg]? = some (.int x) := Hs2.at hin2 t1
  obtain ⟨T3, X3, e3, st3⟩ := getS2 X1 hx hZ hown (host := "") (Or.inl (hw _ (own_w 100 rfl))) Via.refl e1 sH (g := (mkF m 42 #[rv a0, iv (((p1 <<< ((1 : Int32) &&& 31)) + (1 : Int32)))] [(.int (x &&& (255 : Int32)))])) rfl (hb hby d27_42)
  obtain ⟨cl4, Ar4, qk4, Sz4, Ng4, Hs4, Gs4⟩ := id hA
  have hin4 : ¬ (((p1 <<< ((1 : Int32) &&& 31)) + (1 : Int32)) < 0 ∨ cl4.slots.size ≤ (((p1 <<< ((1 : Int32) &&& 31)) + (1 : Int32))).toNatClampNeg) := inb_of Sz4 i2
  have hat4 : cl4.slots[(((p1 <<< ((1 : Int32) &&& 31)) + (1 : Int32))).toNatClampNeg]? = some (.int y) := Hs4.at hin4 t2
  obtain ⟨T5, X5, e5, st5⟩ := getS2 X3 hx hZ hown (host := "") (Or.inl (hw _ (own_w 101 rfl))) Via.refl e3 sL (g := (mkF m 53 #[rv a0, iv (((p1 <<< ((1 : Int32) &&& 31)) + (1 : Int32)))] [(.int (y &&& (255 : Int32))), (.int ((x &&& (255 : Int32)) <<< ((0 : Int32) &&& 31)))])) rfl (hb hby d27_53)
  have S6 : ∀ t, oS p e below T5 (mkF m 59 #[rv a0, iv (((p1 <<< ((1 : Int32) &&& 31)) + (1 : Int32)))] [(.int ((((x &&& (255 : Int32)) <<< ((0 : Int32) &&& 31)) ||| ((y &&& (255 : Int32)) <<< ((8 : Int32) &&& 31)))).toUInt32.toUInt16.toUInt32.toInt32)]) t → oS p e below s₁ (mkF m 0 #[rv a0, iv p1] []) t := fun t k => id (by
    show oS p e below s₁ (mkF m 0 #[rv a0, iv p1] []) _
    refine st1 _ ?_
    refine XS.ifYes X1.here hx rfl (pc0 := 3) (pc' := 28) rfl (hb hby d27_3) rfl (XT.i0_ne_t (by decide)) (by decide) (by decide) ?_
    refine XS.iloadN X1.here hx rfl (hb hby d27_28) rfl ?_
    refine XT.iconstV X1.here hx rfl (1 : Int32) (hb hby d27_29) (by decide) ?_
    refine XT.ishl X1.here hx rfl (hb hby d27_30) rfl ?_
    refine XS.istoreN X1.here hx rfl (hb hby d27_31) rfl (l' := #[rv a0, iv ((p1 <<< ((1 : Int32) &&& 31)))]) rfl ?_
    refine XS.aloadN X1.here hx rfl (hb hby d27_32) rfl rfl ?_
    refine XS.iloadN X1.here hx rfl (hb hby d27_33) rfl ?_
    refine XT.iincV X1.here hx rfl (1 : Int32) (hb hby d27_34) (by decide) rfl (l' := #[rv a0, iv (((p1 <<< ((1 : Int32) &&& 31)) + (1 : Int32)))]) rfl ?_
    refine X1.baloadBytes hx (j := (p1 <<< ((1 : Int32) &&& 31))) (v := (.int x)) (by rw [e1]; exact Ar2.1) (State.isArrayOf_alike hZ.alike Ar2.2.1) Ar2.2.2 hin2 hat2 (g := (mkF m 37 #[rv a0, iv (((p1 <<< ((1 : Int32) &&& 31)) + (1 : Int32)))] [(.int (p1 <<< ((1 : Int32) &&& 31))), (.ref a0)])) rfl rfl (hb hby d27_37) _ ?_
    refine XT.sipushV X1.here hx rfl (255 : Int32) (hb hby d27_38) (by decide) ?_
    refine XS.iand X1.here hx rfl (hb hby d27_41) rfl ?_
    refine st3 _ ?_
    refine XT.ishl X3.here hx rfl (hb hby d27_45) rfl ?_
    refine XS.aloadN X3.here hx rfl (hb hby d27_46) rfl rfl ?_
    show oS p e below T3 (mkF m 47 #[rv a0, iv (((p1 <<< ((1 : Int32) &&& 31)) + (1 : Int32)))] [(.ref a0), (.int ((x &&& (255 : Int32)) <<< ((0 : Int32) &&& 31)))]) _
    refine XS.iloadN X3.here hx rfl (hb hby d27_47) rfl ?_
    refine X3.baloadBytes hx (j := ((p1 <<< ((1 : Int32) &&& 31)) + (1 : Int32))) (v := (.int y)) (by rw [e3]; exact Ar4.1) (State.isArrayOf_alike hZ.alike Ar4.2.1) Ar4.2.2 hin4 hat4 (g := (mkF m 48 #[rv a0, iv (((p1 <<< ((1 : Int32) &&& 31)) + (1 : Int32)))] [(.int ((p1 <<< ((1 : Int32) &&& 31)) + (1 : Int32))), (.ref a0), (.int ((x &&& (255 : Int32)) <<< ((0 : Int32) &&& 31)))])) rfl rfl (hb hby d27_48) _ ?_
    refine XT.sipushV X3.here hx rfl (255 : Int32) (hb hby d27_49) (by decide) ?_
    refine XS.iand X3.here hx rfl (hb hby d27_52) rfl ?_
    refine st5 _ ?_
    refine XT.ishl X5.here hx rfl (hb hby d27_56) rfl ?_
    refine XT.ior X5.here hx rfl (hb hby d27_57) rfl ?_
    refine XT.i2c X5.here hx rfl (hb hby d27_58) rfl ?_
    exact k)
  obtain ⟨fs, hr, hrun, hended, hW, hsame⟩ := X5.leave (v := some (.int (nar .char ((((x &&& (255 : Int32)) <<< ((0 : Int32) &&& 31)) ||| ((y &&& (255 : Int32)) <<< ((8 : Int32) &&& 31)))).toUInt32.toUInt16.toUInt32.toInt32))) (fun h => by rw [Bd.returns] at h; cases h)
  refine ⟨_, _, pre0 _ (S6 _ ?_), hrun, hended, _, _, rfl, ?_, ⟨_, rfl⟩, hW, hsame.mono (by decide) (by decide)⟩
  · exact retN X5 hx (t := .char) Bd.returns (by simp) (hb hby d27_59) hr
  · show QrmGc Z a0 ka z vs p1 x y h0 n0 _ T5.heap _
    rw [e5]
    exact ⟨rfl, N0, rfl⟩
theorem d28_0 : decode jdk_52_method_83_code 0 = .ok (.iload_n 1, 1) := by decide +kernel
theorem d28_1 : decode jdk_52_method_83_code 1 = .ok (.aload_n 0, 1) := by decide +kernel
theorem d28_2 : decode jdk_52_method_83_code 2 = .ok (.invokestatic 67, 3) := by decide +kernel
theorem d28_5 : decode jdk_52_method_83_code 5 = .ok (.aload_n 0, 1) := by decide +kernel
theorem d28_6 : decode jdk_52_method_83_code 6 = .ok (.iload_n 1, 1) := by decide +kernel
theorem d28_7 : decode jdk_52_method_83_code 7 = .ok (.invokestatic 71, 3) := by decide +kernel
theorem d28_10 : decode jdk_52_method_83_code 10 = .ok (.ireturn, 1) := by decide +kernel
theorem pd__I_B_V : parseMethodDescriptor "(I[B)V" = some ⟨[.int, (.array .byte)], none⟩ := by decide +kernel
theorem pd__BI_C : parseMethodDescriptor "([BI)C" = some ⟨[(.array .byte), .int], some .char⟩ := by decide +kernel
def QrmUch (Z : State) (a0 : Addr) (kb : ClassId) (z : Int32) (vs : List Value) (p1 : Int32) (fm : Value) (ch : Int32) (h0 : Heap) (n0 : Nat) (v : Option Value) (h : Heap) (L : List Loc) : Prop := v = some (.int ch) ∧ Fr n0 L ∧ h = h0
set_option maxRecDepth 65536 in
set_option maxHeartbeats 40000000 in
theorem rmUch (l : Launch) (Z : State) (av0 : Array Value) (hw : ∀ d ∈ tables_1, d.before av0 Z = true) (ws : List Jvm.Cond) (a0 : Addr) (kb : ClassId) (z : Int32) (vs : List Value) (p1 : Int32) (fm : Value) (ch : Int32) (h0 : Heap) (n0 : Nat) (Z0 : n0 ≤ h0.size) (hB : Arv Z h0 a0 kb .byte z vs (.int (0 : Int32))) (hfm : fm.isRef = true) (hF : Sta Z h0 "jdk/internal/util/Preconditions" "SIOOBE_FORMATTER" "Ljava/util/function/BiFunction;" fm) (sA : Sta Z h0 "java/lang/StringUTF16" "$assertionsDisabled" "Z" (.int (1 : Int32))) (sH : Sta Z h0 "java/lang/StringUTF16" "HI_BYTE_SHIFT" "I" (.int (0 : Int32))) (sL : Sta Z h0 "java/lang/StringUTF16" "LO_BYTE_SHIFT" "I" (.int (8 : Int32))) (h1 : ¬ p1 < (0 : Int32)) (h2 : p1 < (z >>> ((1 : Int32) &&& 31))) (i1 : ¬ (p1 <<< ((1 : Int32) &&& 31)) < 0 ∧ (p1 <<< ((1 : Int32) &&& 31)) < z) (i2 : ¬ ((p1 <<< ((1 : Int32) &&& 31)) + (1 : Int32)) < 0 ∧ ((p1 <<< ((1 : Int32) &&& 31)) + (1 : Int32)) < z) (t1 : vs.getD (p1 <<< ((1 : Int32) &&& 31)).toNatClampNeg (.int (0 : Int32)) = .int (own_lo ch)) (t2 : vs.getD ((p1 <<< ((1 : Int32) &&& 31)) + (1 : Int32)).toNatClampNeg (.int (0 : Int32)) = .int (own_hi ch)) (hg : 0 ≤ ch.toInt ∧ ch.toInt < 65536) :
    own_Met l mN14 jdk_52_method_83_code 2 (some .char) ws ({ frames := 3, cells := 0, slots := 0, locals := 40 } : Room) #[(.ref a0), (.int p1)] Z h0 (QrmUch Z a0 kb z vs p1 fm ch h0 n0) := by
  refine MetFree.of_bodySF (plainFor_of_name pn_StringUTF16) hisR ?_
  intro p e s m args below meth c s₁ Bd hml0 hP hK
  obtain ⟨rfl, hZ, hh⟩ := hP
  have hml : c.maxLocals = 2 := hml0
  obtain ⟨hx, hby, hown, hnm, X0, e0⟩ := own_start Bd hml0 hh
  have N0 := Fr.nil n0
  have pre0 : ∀ t, oS p e below s₁ (mkF m 0 #[rv a0, iv p1] []) t → Steps p.tables e below (s₁.setTop (entryFrame m #[(.ref a0), (.int p1)] 2)) t := fun t k => castTop (by first | (simp [entryFrame, mkF, argsToLocals, Value.category]; done) | rfl) k
  obtain ⟨_, T1, Lc1, X1, hQ1, st1⟩ := own_callS (W := 0) (y := mN12) X0 hx hZ hown (hw _ (own_w 118 rfl)) (hw _ (own_w 119 rfl)) (hw _ (own_w 39 rfl)) (hw _ (own_w 120 rfl)) (by decide) (rmUci l Z av0 hw [] a0 kb z vs p1 fm h0 n0 Z0 hB hfm hF h1 h2) (by decide) (by decide) (g := (mkF m 2 #[rv a0, iv p1] [(.ref a0), (.int p1)])) rfl (by rw [hml]; rfl) (argsL := [(.int p1), (.ref a0)]) (rest := []) (lenOf pd__I_B_V rfl) rfl (hb hby d28_2) rfl e0 (by decide : 0 + 0 ≤ _) (by decide : 0 + 0 ≤ _)
  obtain ⟨rfl, N1q, hh1⟩ := hQ1
  have N1 := Fr.app N0 N1q
  have e1 : T1.heap = h0 := hh1
  obtain ⟨_, T2, Lc2, X2, hQ2, st2⟩ := own_callS (W := 0) (y := mN13) X1 hx hZ hown (hw _ (own_w 112 rfl)) (hw _ (own_w 113 rfl)) (hw _ (own_w 39 rfl)) (hw _ (own_w 114 rfl)) (by decide) (rmGc l Z av0 hw [] a0 kb z vs p1 (own_lo ch) (own_hi ch) h0 n0 Z0 hB sA sH sL i1 i2 t1 t2) (by decide) (by decide) (g := (mkF m 7 #[rv a0, iv p1] [(.int p1), (.ref a0)])) rfl (by rw [hml]; rfl) (argsL := [(.ref a0), (.int p1)]) (rest := []) (lenOf pd__BI_C rfl) rfl (hb hby d28_7) rfl e1 (by decide : 0 + 0 ≤ _) (by decide : 0 + 0 ≤ _)
  obtain ⟨rfl, N2q, hh2⟩ := hQ2
  have N2 := Fr.app N1 N2q
  have e2 : T2.heap = h0 := hh2
  have S3 : ∀ t, oS p e below T2 (mkF m 10 #[rv a0, iv p1] [(.int (own_gc (own_lo ch) (own_hi ch)))]) t → oS p e below s₁ (mkF m 0 #[rv a0, iv p1] []) t := fun t k => id (by
    show oS p e below s₁ (mkF m 0 #[rv a0, iv p1] []) _
    refine XS.iloadN X0.here hx rfl (hb hby d28_0) rfl ?_
    refine XS.aloadN X0.here hx rfl (hb hby d28_1) rfl rfl ?_
    refine st1 _ ?_
    refine XS.aloadN X1.here hx rfl (hb hby d28_5) rfl rfl ?_
    refine XS.iloadN X1.here hx rfl (hb hby d28_6) rfl ?_
    refine st2 _ ?_
    exact k)
  obtain ⟨fs, hr, hrun, hended, hW, hsame⟩ := X2.leave (v := some (.int (nar .char (own_gc (own_lo ch) (own_hi ch))))) (fun h => by rw [Bd.returns] at h; cases h)
  refine ⟨_, _, pre0 _ (S3 _ ?_), hrun, hended, _, _, rfl, ?_, ⟨_, rfl⟩, hW, hsame.mono (by decide) (by decide)⟩
  · exact retN X2 hx (t := .char) Bd.returns (by simp) (hb hby d28_10) hr
  · show QrmUch Z a0 kb z vs p1 fm ch h0 n0 _ T2.heap _
    rw [e2]
    exact ⟨by rw [own_gcv ch hg.1 hg.2, own_nar ch hg.1 hg.2], N2, rfl⟩
theorem d14_0 : decode jdk_42_method_56_code 0 = .ok (.aload_n 0, 1) := by decide +kernel
theorem d14_1 : decode jdk_42_method_56_code 1 = .ok (.invokevirtual 492, 3) := by decide +kernel
theorem d14_4 : decode jdk_42_method_56_code 4 = .ok (.ifCond .eq 12, 3) := by decide +kernel
theorem d14_16 : decode jdk_42_method_56_code 16 = .ok (.aload_n 0, 1) := by decide +kernel
theorem d14_17 : decode jdk_42_method_56_code 17 = .ok (.getfield 9, 3) := by decide +kernel
theorem d14_20 : decode jdk_42_method_56_code 20 = .ok (.iload_n 1, 1) := by decide +kernel
theorem d14_21 : decode jdk_42_method_56_code 21 = .ok (.invokestatic 498, 3) := by decide +kernel
theorem d14_24 : decode jdk_42_method_56_code 24 = .ok (.ireturn, 1) := by decide +kernel
theorem pd__Z : parseMethodDescriptor "()Z" = some ⟨[], some .boolean⟩ := by decide +kernel
def QrmCh1 (Z : State) (a0 : Addr) (ab : Addr) (kb : ClassId) (wC : Int32) (z : Int32) (vs : List Value) (p1 : Int32) (fm : Value) (ch : Int32) (h0 : Heap) (n0 : Nat) (v : Option Value) (h : Heap) (L : List Loc) : Prop := v = some (.int ch) ∧ Fr n0 L ∧ h = h0
set_option maxRecDepth 65536 in
set_option maxHeartbeats 40000000 in
theorem rmCh1 (l : Launch) (Z : State) (av0 : Array Value) (hw : ∀ d ∈ tables_1, d.before av0 Z = true) (ws : List Jvm.Cond) (a0 : Addr) (ab : Addr) (kb : ClassId) (wC : Int32) (z : Int32) (vs : List Value) (p1 : Int32) (fm : Value) (ch : Int32) (h0 : Heap) (n0 : Nat) (Z0 : n0 ≤ h0.size) (hE : Exa Z h0 a0 "java/lang/String") (hV : Fld Z h0 a0 "java/lang/String" "value" "[B" (.ref ab)) (hC : Fld Z h0 a0 "java/lang/String" "coder" "B" (.int (1 : Int32))) (hB : Arv Z h0 ab kb .byte z vs (.int (0 : Int32))) (hS : Sta Z h0 "java/lang/String" "COMPACT_STRINGS" "Z" (.int wC)) (hw0 : ¬ wC = (0 : Int32)) (hfm : fm.isRef = true) (hF : Sta Z h0 "jdk/internal/util/Preconditions" "SIOOBE_FORMATTER" "Ljava/util/function/BiFunction;" fm) (sA : Sta Z h0 "java/lang/StringUTF16" "$assertionsDisabled" "Z" (.int (1 : Int32))) (sH : Sta Z h0 "java/lang/StringUTF16" "HI_BYTE_SHIFT" "I" (.int (0 : Int32))) (sL : Sta Z h0 "java/lang/StringUTF16" "LO_BYTE_SHIFT" "I" (.int (8 : Int32))) (h1 : ¬ p1 < (0 : Int32)) (h2 : p1 < (z >>> ((1 : Int32) &&& 31))) (i1 : ¬ (p1 <<< ((1 : Int32) &&& 31)) < 0 ∧ (p1 <<< ((1 : Int32) &&& 31)) < z) (i2 : ¬ ((p1 <<< ((1 : Int32) &&& 31)) + (1 : Int32)) < 0 ∧ ((p1 <<< ((1 : Int32) &&& 31)) + (1 : Int32)) < z) (t1 : vs.getD (p1 <<< ((1 : Int32) &&& 31)).toNatClampNeg (.int (0 : Int32)) = .int (own_lo ch)) (t2 : vs.getD ((p1 <<< ((1 : Int32) &&& 31)) + (1 : Int32)).toNatClampNeg (.int (0 : Int32)) = .int (own_hi ch)) (hg : 0 ≤ ch.toInt ∧ ch.toInt < 65536) :
    own_Met l mN15 jdk_42_method_56_code 2 (some .char) ws ({ frames := 4, cells := 0, slots := 0, locals := 53 } : Room) #[(.ref a0), (.int p1)] Z h0 (QrmCh1 Z a0 ab kb wC z vs p1 fm ch h0 n0) := by
  refine MetFree.of_bodySF (plainFor_of_name pn_String) hisR ?_
  intro p e s m args below meth c s₁ Bd hml0 hP hK
  obtain ⟨rfl, hZ, hh⟩ := hP
  have hml : c.maxLocals = 2 := hml0
  obtain ⟨hx, hby, hown, hnm, X0, e0⟩ := own_start Bd hml0 hh
  have N0 := Fr.nil n0
  have pre0 : ∀ t, oS p e below s₁ (mkF m 0 #[rv a0, iv p1] []) t → Steps p.tables e below (s₁.setTop (entryFrame m #[(.ref a0), (.int p1)] 2)) t := fun t k => castTop (by first | (simp [entryFrame, mkF, argsToLocals, Value.category]; done) | rfl) k
  obtain ⟨_, T1, Lc1, X1, hQ1, st1⟩ := own_virtual (W := 0) (y := mN10) (z := mN10) X0 hx hZ hown (hw _ (own_w 66 rfl)) (hw _ (own_w 67 rfl)) (notFace_of_selects (args := #[]) (mvT hZ (hw _ (own_w 69 rfl)))) (hw _ (own_w 69 rfl)) (hw _ (own_w 68 rfl)) (hw _ (own_w 70 rfl)) (hw _ (own_w 2 rfl)) (by decide) (rmLat_1 l Z av0 hw [] a0 wC h0 n0 Z0 hS hw0 hC) (by decide) (by decide) hE (g := (mkF m 1 #[rv a0, iv p1] [(.ref a0)])) rfl (by rw [hml]; rfl) (argsL := []) (rest := []) (lenOf pd__Z rfl) rfl (hb hby d14_1) rfl e0 (by decide : 0 + 0 ≤ _) (by decide : 0 + 0 ≤ _)
  obtain ⟨rfl, N1q, hh1⟩ := hQ1
  have N1 := Fr.app N0 N1q
  have e1 : T1.heap = h0 := hh1
  obtain ⟨T2, X2, e2, st2⟩ := getF X1 hx hZ hown (host := "") (Or.inl (hw _ (own_w 20 rfl))) Via.refl e1 hV (g := (mkF m 17 #[rv a0, iv p1] [(.ref a0)])) rfl rfl (hb hby d14_17)
  obtain ⟨_, T3, Lc3, X3, hQ3, st3⟩ := own_callS (W := 0) (y := mN14) X2 hx hZ hown (hw _ (own_w 115 rfl)) (hw _ (own_w 116 rfl)) (hw _ (own_w 39 rfl)) (hw _ (own_w 117 rfl)) (by decide) (rmUch l Z av0 hw [] ab kb z vs p1 fm ch h0 n0 Z0 hB hfm hF sA sH sL h1 h2 i1 i2 t1 t2 hg) (by decide) (by decide) (g := (mkF m 21 #[rv a0, iv p1] [(.int p1), (.ref ab)])) rfl (by rw [hml]; rfl) (argsL := [(.ref ab), (.int p1)]) (rest := []) (lenOf pd__BI_C rfl) rfl (hb hby d14_21) rfl e2 (by decide : 0 + 0 ≤ _) (by decide : 0 + 0 ≤ _)
  obtain ⟨rfl, N3q, hh3⟩ := hQ3
  have N3 := Fr.app N1 N3q
  have e3 : T3.heap = h0 := hh3
  have S4 : ∀ t, oS p e below T3 (mkF m 24 #[rv a0, iv p1] [(.int ch)]) t → oS p e below s₁ (mkF m 0 #[rv a0, iv p1] []) t := fun t k => id (by
    show oS p e below s₁ (mkF m 0 #[rv a0, iv p1] []) _
    refine XS.aloadN X0.here hx rfl (hb hby d14_0) rfl rfl ?_
    refine st1 _ ?_
    refine XS.ifYes X1.here hx rfl (pc0 := 4) (pc' := 16) rfl (hb hby d14_4) rfl (XT.i0_eq_t (by decide)) (by decide) (by decide) ?_
    refine XS.aloadN X1.here hx rfl (hb hby d14_16) rfl rfl ?_
    refine st2 _ ?_
    refine XS.iloadN X2.here hx rfl (hb hby d14_20) rfl ?_
    refine st3 _ ?_
    exact k)
  obtain ⟨fs, hr, hrun, hended, hW, hsame⟩ := X3.leave (v := some (.int (nar .char ch))) (fun h => by rw [Bd.returns] at h; cases h)
  refine ⟨_, _, pre0 _ (S4 _ ?_), hrun, hended, _, _, rfl, ?_, ⟨_, rfl⟩, hW, hsame.mono (by decide) (by decide)⟩
  · exact retN X3 hx (t := .char) Bd.returns (by simp) (hb hby d14_24) hr
  · show QrmCh1 Z a0 ab kb wC z vs p1 fm ch h0 n0 _ T3.heap _
    rw [e3]
    exact ⟨congrArg (fun z => some (Value.int z)) (own_nar ch hg.1 hg.2), N3, rfl⟩
theorem d15_13 : decode jdk_42_method_154_code 13 = .ok (.iconst 1, 1) := by decide +kernel
theorem d15_14 : decode jdk_42_method_154_code 14 = .ok (.goto 4, 3) := by decide +kernel
def QrmLat_0 (Z : State) (a0 : Addr) (wC : Int32) (h0 : Heap) (n0 : Nat) (v : Option Value) (h : Heap) (L : List Loc) : Prop := v = some (.int 1) ∧ Fr n0 L ∧ h = h0
set_option maxRecDepth 65536 in
set_option maxHeartbeats 40000000 in
theorem rmLat_0 (l : Launch) (Z : State) (av0 : Array Value) (hw : ∀ d ∈ tables_1, d.before av0 Z = true) (ws : List Jvm.Cond) (a0 : Addr) (wC : Int32) (h0 : Heap) (n0 : Nat) (Z0 : n0 ≤ h0.size) (hS : Sta Z h0 "java/lang/String" "COMPACT_STRINGS" "Z" (.int wC)) (hw0 : ¬ wC = (0 : Int32)) (hC : Fld Z h0 a0 "java/lang/String" "coder" "B" (.int (0 : Int32))) :
    own_Met l mN10 jdk_42_method_154_code 1 (some .boolean) ws ({ frames := 0, cells := 0, slots := 0, locals := 0 } : Room) #[(.ref a0)] Z h0 (QrmLat_0 Z a0 wC h0 n0) := by
  refine MetFree.of_bodySF (plainFor_of_name pn_String) hisR ?_
  intro p e s m args below meth c s₁ Bd hml0 hP hK
  obtain ⟨rfl, hZ, hh⟩ := hP
  have hml : c.maxLocals = 1 := hml0
  obtain ⟨hx, hby, hown, hnm, X0, e0⟩ := own_start Bd hml0 hh
  have N0 := Fr.nil n0
  have pre0 : ∀ t, oS p e below s₁ (mkF m 0 #[rv a0] []) t → Steps p.tables e below (s₁.setTop (entryFrame m #[(.ref a0)] 1)) t := fun t k => castTop (by first | (simp [entryFrame, mkF, argsToLocals, Value.category]; done) | rfl) k
  obtain ⟨T1, X1, e1, st1⟩ := getS2 X0 hx hZ hown (host := "") (Or.inl (hw _ (own_w 25 rfl))) Via.refl e0 hS (g := (mkF m 0 #[rv a0] [])) rfl (hb hby d15_0)
  obtain ⟨T2, X2, e2, st2⟩ := getF X1 hx hZ hown (host := "") (Or.inl (hw _ (own_w 21 rfl))) Via.refl e1 hC (g := (mkF m 7 #[rv a0] [(.ref a0)])) rfl rfl (hb hby d15_7)
  have S3 : ∀ t, oS p e below T2 (mkF m 18 #[rv a0] [(.int 1)]) t → oS p e below s₁ (mkF m 0 #[rv a0] []) t := fun t k => id (by
    show oS p e below s₁ (mkF m 0 #[rv a0] []) _
    refine st1 _ ?_
    refine XS.ifNo X1.here hx rfl (hb hby d15_3) rfl (XT.i0_eq_f hw0) ?_
    refine XS.aloadN X1.here hx rfl (hb hby d15_6) rfl rfl ?_
    refine st2 _ ?_
    refine XS.ifNo X2.here hx rfl (hb hby d15_10) rfl (XT.i0_ne_f (by decide)) ?_
    refine XT.iconstV X2.here hx rfl (1 : Int32) (hb hby d15_13) (by decide) ?_
    refine XS.goto X2.here hx rfl (pc0 := 14) (pc' := 18) rfl (hb hby d15_14) (by decide) (by decide) ?_
    exact k)
  obtain ⟨fs, hr, hrun, hended, hW, hsame⟩ := X2.leave (v := some (.int 1)) (fun h => by rw [Bd.returns] at h; cases h)
  refine ⟨_, _, pre0 _ (S3 _ ?_), hrun, hended, _, _, rfl, ?_, ⟨_, rfl⟩, hW, hsame.mono (by decide) (by decide)⟩
  · exact retN X2 hx (t := .boolean) Bd.returns (by simp) (hb hby d15_18) hr
  · show QrmLat_0 Z a0 wC h0 n0 _ T2.heap _
    rw [e2]
    exact ⟨congrArg (fun z => some (Value.int z)) (by decide), N0, rfl⟩
theorem d16_0 : decode jdk_43_method_2_code 0 = .ok (.iload_n 1, 1) := by decide +kernel
theorem d16_1 : decode jdk_43_method_2_code 1 = .ok (.aload_n 0, 1) := by decide +kernel
theorem d16_2 : decode jdk_43_method_2_code 2 = .ok (.arraylength, 1) := by decide +kernel
theorem d16_3 : decode jdk_43_method_2_code 3 = .ok (.invokestatic 9, 3) := by decide +kernel
theorem d16_6 : decode jdk_43_method_2_code 6 = .ok (.aload_n 0, 1) := by decide +kernel
theorem d16_7 : decode jdk_43_method_2_code 7 = .ok (.iload_n 1, 1) := by decide +kernel
theorem d16_8 : decode jdk_43_method_2_code 8 = .ok (.baload, 1) := by decide +kernel
theorem d16_9 : decode jdk_43_method_2_code 9 = .ok (.sipush 255, 3) := by decide +kernel
theorem d16_12 : decode jdk_43_method_2_code 12 = .ok (.iand, 1) := by decide +kernel
theorem d16_13 : decode jdk_43_method_2_code 13 = .ok (.i2c, 1) := by decide +kernel
theorem d16_14 : decode jdk_43_method_2_code 14 = .ok (.ireturn, 1) := by decide +kernel
theorem pn_StringLatin1 : plainName "java/lang/StringLatin1" = true := by first | (simp [plainName, overriddenIn]; done) | decide +kernel
def QrmLch (Z : State) (a0 : Addr) (kb : ClassId) (z : Int32) (vs : List Value) (p1 : Int32) (fm : Value) (ch : Int32) (h0 : Heap) (n0 : Nat) (v : Option Value) (h : Heap) (L : List Loc) : Prop := v = some (.int ch) ∧ Fr n0 L ∧ h = h0
set_option maxRecDepth 65536 in
set_option maxHeartbeats 40000000 in
theorem rmLch (l : Launch) (Z : State) (av0 : Array Value) (hw : ∀ d ∈ tables_1, d.before av0 Z = true) (ws : List Jvm.Cond) (a0 : Addr) (kb : ClassId) (z : Int32) (vs : List Value) (p1 : Int32) (fm : Value) (ch : Int32) (h0 : Heap) (n0 : Nat) (Z0 : n0 ≤ h0.size) (hB : Arv Z h0 a0 kb .byte z vs (.int (0 : Int32))) (hfm : fm.isRef = true) (hF : Sta Z h0 "jdk/internal/util/Preconditions" "SIOOBE_FORMATTER" "Ljava/util/function/BiFunction;" fm) (h1 : ¬ p1 < (0 : Int32)) (h2 : p1 < z) (t1 : vs.getD p1.toNatClampNeg (.int (0 : Int32)) = .int (own_b ch)) (hg : 0 ≤ ch.toInt ∧ ¬ (255 : Int32) < ch) :
    own_Met l mN16 jdk_43_method_2_code 2 (some .char) ws ({ frames := 2, cells := 0, slots := 0, locals := 27 } : Room) #[(.ref a0), (.int p1)] Z h0 (QrmLch Z a0 kb z vs p1 fm ch h0 n0) := by
  refine MetFree.of_bodySF (plainFor_of_name pn_StringLatin1) hisR ?_
  intro p e s m args below meth c s₁ Bd hml0 hP hK
  obtain ⟨rfl, hZ, hh⟩ := hP
  have hml : c.maxLocals = 2 := hml0
  obtain ⟨hx, hby, hown, hnm, X0, e0⟩ := own_start Bd hml0 hh
  have N0 := Fr.nil n0
  have pre0 : ∀ t, oS p e below s₁ (mkF m 0 #[rv a0, iv p1] []) t → Steps p.tables e below (s₁.setTop (entryFrame m #[(.ref a0), (.int p1)] 2)) t := fun t k => castTop (by first | (simp [entryFrame, mkF, argsToLocals, Value.category]; done) | rfl) k
  obtain ⟨cl1, Ar1, qk1, Sz1, Ng1, Hs1, Gs1⟩ := id hB
  obtain ⟨_, T2, Lc2, X2, hQ2, st2⟩ := own_callS (W := 0) (y := mN9) X0 hx hZ hown (hw _ (own_w 74 rfl)) (hw _ (own_w 75 rfl)) (hw _ (own_w 2 rfl)) (hw _ (own_w 76 rfl)) (by decide) (rmSci l Z av0 hw [] p1 z fm h0 n0 Z0 hfm hF h1 h2) (by decide) (by decide) (g := (mkF m 3 #[rv a0, iv p1] [(.int z), (.int p1)])) rfl (by rw [hml]; rfl) (argsL := [(.int p1), (.int z)]) (rest := []) (lenOf pd__II_V rfl) rfl (hb hby d16_3) rfl e0 (by decide : 0 + 0 ≤ _) (by decide : 0 + 0 ≤ _)
  obtain ⟨rfl, N2q, hh2⟩ := hQ2
  have N2 := Fr.app N0 N2q
  have e2 : T2.heap = h0 := hh2
  obtain ⟨cl3, Ar3, qk3, Sz3, Ng3, Hs3, Gs3⟩ := id hB
  have hin3 : ¬ (p1 < 0 ∨ cl3.slots.size ≤ (p1).toNatClampNeg) := inb_of Sz3 ⟨h1, h2⟩
  have hat3 : cl3.slots[(p1).toNatClampNeg]? = some (.int (own_b ch)) := Hs3.at hin3 t1
  have S4 : ∀ t, oS p e below T2 (mkF m 14 #[rv a0, iv p1] [(.int (((own_b ch) &&& (255 : Int32))).toUInt32.toUInt16.toUInt32.toInt32)]) t → oS p e below s₁ (mkF m 0 #[rv a0, iv p1] []) t := fun t k => id (by
    show oS p e below s₁ (mkF m 0 #[rv a0, iv p1] []) _
    refine XS.iloadN X0.here hx rfl (hb hby d16_0) rfl ?_
    refine XS.aloadN X0.here hx rfl (hb hby d16_1) rfl rfl ?_
    refine X0.arraylength hx (by rw [e0]; exact Ar1.1) (State.isArrayOf_alike hZ.alike Ar1.2.1) (g := (mkF m 2 #[rv a0, iv p1] [(.ref a0), (.int p1)])) rfl rfl (hb hby d16_2) _ ?_
    rw [len_of Sz1 Ng1]
    refine st2 _ ?_
    refine XS.aloadN X2.here hx rfl (hb hby d16_6) rfl rfl ?_
    refine XS.iloadN X2.here hx rfl (hb hby d16_7) rfl ?_
    refine X2.baloadBytes hx (j := p1) (v := (.int (own_b ch))) (by rw [e2]; exact Ar3.1) (State.isArrayOf_alike hZ.alike Ar3.2.1) Ar3.2.2 hin3 hat3 (g := (mkF m 8 #[rv a0, iv p1] [(.int p1), (.ref a0)])) rfl rfl (hb hby d16_8) _ ?_
    refine XT.sipushV X2.here hx rfl (255 : Int32) (hb hby d16_9) (by decide) ?_
    refine XS.iand X2.here hx rfl (hb hby d16_12) rfl ?_
    refine XT.i2c X2.here hx rfl (hb hby d16_13) rfl ?_
    exact k)
  obtain ⟨fs, hr, hrun, hended, hW, hsame⟩ := X2.leave (v := some (.int (nar .char (((own_b ch) &&& (255 : Int32))).toUInt32.toUInt16.toUInt32.toInt32))) (fun h => by rw [Bd.returns] at h; cases h)
  refine ⟨_, _, pre0 _ (S4 _ ?_), hrun, hended, _, _, rfl, ?_, ⟨_, rfl⟩, hW, hsame.mono (by decide) (by decide)⟩
  · exact retN X2 hx (t := .char) Bd.returns (by simp) (hb hby d16_14) hr
  · show QrmLch Z a0 kb z vs p1 fm ch h0 n0 _ T2.heap _
    rw [e2]
    exact ⟨congrArg (fun z => some (Value.int z)) (own_lcv ch hg.1 hg.2), N2, rfl⟩
theorem d14_7 : decode jdk_42_method_56_code 7 = .ok (.aload_n 0, 1) := by decide +kernel
theorem d14_8 : decode jdk_42_method_56_code 8 = .ok (.getfield 9, 3) := by decide +kernel
theorem d14_11 : decode jdk_42_method_56_code 11 = .ok (.iload_n 1, 1) := by decide +kernel
theorem d14_12 : decode jdk_42_method_56_code 12 = .ok (.invokestatic 495, 3) := by decide +kernel
theorem d14_15 : decode jdk_42_method_56_code 15 = .ok (.ireturn, 1) := by decide +kernel
def QrmCh0 (Z : State) (a0 : Addr) (ab : Addr) (kb : ClassId) (wC : Int32) (z : Int32) (vs : List Value) (p1 : Int32) (fm : Value) (ch : Int32) (h0 : Heap) (n0 : Nat) (v : Option Value) (h : Heap) (L : List Loc) : Prop := v = some (.int ch) ∧ Fr n0 L ∧ h = h0
set_option maxRecDepth 65536 in
set_option maxHeartbeats 40000000 in
theorem rmCh0 (l : Launch) (Z : State) (av0 : Array Value) (hw : ∀ d ∈ tables_1, d.before av0 Z = true) (ws : List Jvm.Cond) (a0 : Addr) (ab : Addr) (kb : ClassId) (wC : Int32) (z : Int32) (vs : List Value) (p1 : Int32) (fm : Value) (ch : Int32) (h0 : Heap) (n0 : Nat) (Z0 : n0 ≤ h0.size) (hE : Exa Z h0 a0 "java/lang/String") (hV : Fld Z h0 a0 "java/lang/String" "value" "[B" (.ref ab)) (hC : Fld Z h0 a0 "java/lang/String" "coder" "B" (.int (0 : Int32))) (hB : Arv Z h0 ab kb .byte z vs (.int (0 : Int32))) (hS : Sta Z h0 "java/lang/String" "COMPACT_STRINGS" "Z" (.int wC)) (hw0 : ¬ wC = (0 : Int32)) (hfm : fm.isRef = true) (hF : Sta Z h0 "jdk/internal/util/Preconditions" "SIOOBE_FORMATTER" "Ljava/util/function/BiFunction;" fm) (h1 : ¬ p1 < (0 : Int32)) (h2 : p1 < z) (t1 : vs.getD p1.toNatClampNeg (.int (0 : Int32)) = .int (own_b ch)) (hg : 0 ≤ ch.toInt ∧ ¬ (255 : Int32) < ch) :
    own_Met l mN15 jdk_42_method_56_code 2 (some .char) ws ({ frames := 4, cells := 0, slots := 0, locals := 53 } : Room) #[(.ref a0), (.int p1)] Z h0 (QrmCh0 Z a0 ab kb wC z vs p1 fm ch h0 n0) := by
  refine MetFree.of_bodySF (plainFor_of_name pn_String) hisR ?_
  intro p e s m args below meth c s₁ Bd hml0 hP hK
  obtain ⟨rfl, hZ, hh⟩ := hP
  have hml : c.maxLocals = 2 := hml0
  obtain ⟨hx, hby, hown, hnm, X0, e0⟩ := own_start Bd hml0 hh
  have N0 := Fr.nil n0
  have pre0 : ∀ t, oS p e below s₁ (mkF m 0 #[rv a0, iv p1] []) t → Steps p.tables e below (s₁.setTop (entryFrame m #[(.ref a0), (.int p1)] 2)) t := fun t k => castTop (by first | (simp [entryFrame, mkF, argsToLocals, Value.category]; done) | rfl) k
  obtain ⟨_, T1, Lc1, X1, hQ1, st1⟩ := own_virtual (W := 0) (y := mN10) (z := mN10) X0 hx hZ hown (hw _ (own_w 66 rfl)) (hw _ (own_w 67 rfl)) (notFace_of_selects (args := #[]) (mvT hZ (hw _ (own_w 69 rfl)))) (hw _ (own_w 69 rfl)) (hw _ (own_w 68 rfl)) (hw _ (own_w 70 rfl)) (hw _ (own_w 2 rfl)) (by decide) (rmLat_0 l Z av0 hw [] a0 wC h0 n0 Z0 hS hw0 hC) (by decide) (by decide) hE (g := (mkF m 1 #[rv a0, iv p1] [(.ref a0)])) rfl (by rw [hml]; rfl) (argsL := []) (rest := []) (lenOf pd__Z rfl) rfl (hb hby d14_1) rfl e0 (by decide : 0 + 0 ≤ _) (by decide : 0 + 0 ≤ _)
  obtain ⟨rfl, N1q, hh1⟩ := hQ1
  have N1 := Fr.app N0 N1q
  have e1 : T1.heap = h0 := hh1
  obtain ⟨T2, X2, e2, st2⟩ := getF X1 hx hZ hown (host := "") (Or.inl (hw _ (own_w 20 rfl))) Via.refl e1 hV (g := (mkF m 8 #[rv a0, iv p1] [(.ref a0)])) rfl rfl (hb hby d14_8)
  obtain ⟨_, T3, Lc3, X3, hQ3, st3⟩ := own_callS (W := 0) (y := mN16) X2 hx hZ hown (hw _ (own_w 71 rfl)) (hw _ (own_w 72 rfl)) (hw _ (own_w 28 rfl)) (hw _ (own_w 73 rfl)) (by decide) (rmLch l Z av0 hw [] ab kb z vs p1 fm ch h0 n0 Z0 hB hfm hF  h1 h2 t1 hg) (by decide) (by decide) (g := (mkF m 12 #[rv a0, iv p1] [(.int p1), (.ref ab)])) rfl (by rw [hml]; rfl) (argsL := [(.ref ab), (.int p1)]) (rest := []) (lenOf pd__BI_C rfl) rfl (hb hby d14_12) rfl e2 (by decide : 0 + 0 ≤ _) (by decide : 0 + 0 ≤ _)
  obtain ⟨rfl, N3q, hh3⟩ := hQ3
  have N3 := Fr.app N1 N3q
  have e3 : T3.heap = h0 := hh3
  have S4 : ∀ t, oS p e below T3 (mkF m 15 #[rv a0, iv p1] [(.int ch)]) t → oS p e below s₁ (mkF m 0 #[rv a0, iv p1] []) t := fun t k => id (by
    show oS p e below s₁ (mkF m 0 #[rv a0, iv p1] []) _
    refine XS.aloadN X0.here hx rfl (hb hby d14_0) rfl rfl ?_
    refine st1 _ ?_
    refine XS.ifNo X1.here hx rfl (hb hby d14_4) rfl (XT.i0_eq_f (by decide)) ?_
    refine XS.aloadN X1.here hx rfl (hb hby d14_7) rfl rfl ?_
    refine st2 _ ?_
    refine XS.iloadN X2.here hx rfl (hb hby d14_11) rfl ?_
    refine st3 _ ?_
    exact k)
  obtain ⟨fs, hr, hrun, hended, hW, hsame⟩ := X3.leave (v := some (.int (nar .char ch))) (fun h => by rw [Bd.returns] at h; cases h)
  refine ⟨_, _, pre0 _ (S4 _ ?_), hrun, hended, _, _, rfl, ?_, ⟨_, rfl⟩, hW, hsame.mono (by decide) (by decide)⟩
  · exact retN X3 hx (t := .char) Bd.returns (by simp) (hb hby d14_15) hr
  · show QrmCh0 Z a0 ab kb wC z vs p1 fm ch h0 n0 _ T3.heap _
    rw [e3]
    exact ⟨congrArg (fun z => some (Value.int z)) (own_nar ch hg.1 (by have q := hg.2; rw [Int32.lt_iff_toInt_lt, show (255 : Int32).toInt = 255 from rfl] at q; omega)), N3, rfl⟩
theorem rmChJ_1_0 (l : Launch) (Z : State) (av0 : Array Value) (hw : ∀ d ∈ tables_1, d.before av0 Z = true) (ws : List Jvm.Cond) (a0 : Addr) (wC : Int32) (fm : Value) (c0 : Int32) (h0 : Heap) (n0 : Nat) (Z0 : n0 ≤ h0.size) (hE : Exa Z h0 a0 "java/lang/String") (hSt : own_St1 Z h0 a0 c0) (hS : Sta Z h0 "java/lang/String" "COMPACT_STRINGS" "Z" (.int wC)) (hw0 : ¬ wC = (0 : Int32)) (hfm : fm.isRef = true) (hF : Sta Z h0 "jdk/internal/util/Preconditions" "SIOOBE_FORMATTER" "Ljava/util/function/BiFunction;" fm) (sA : Sta Z h0 "java/lang/StringUTF16" "$assertionsDisabled" "Z" (.int (1 : Int32))) (sH : Sta Z h0 "java/lang/StringUTF16" "HI_BYTE_SHIFT" "I" (.int (0 : Int32))) (sL : Sta Z h0 "java/lang/StringUTF16" "LO_BYTE_SHIFT" "I" (.int (8 : Int32))) (hg : 0 ≤ c0.toInt ∧ c0.toInt < 65536) :
    own_Met l mN15 jdk_42_method_56_code 2 (some .char) ws ({ frames := 4, cells := 0, slots := 0, locals := 53 } : Room) #[(.ref a0), (.int (0 : Int32))] Z h0 (fun v h L => v = some (.int c0) ∧ Fr n0 L ∧ h = h0) := by
  rcases hSt with ⟨ab, kb, hV, hC, hB, lt0⟩ | ⟨ab, kb, hV, hC, hB⟩
  · exact rmCh0 l Z av0 hw ws a0 ab kb wC (1 : Int32) [(.int (own_b c0))] (0 : Int32) fm c0 h0 n0 Z0 hE hV hC hB hS hw0 hfm hF (by decide) (by decide) rfl ⟨hg.1, lt0⟩
  · exact rmCh1 l Z av0 hw ws a0 ab kb wC (2 : Int32) [(.int (own_lo c0)), (.int (own_hi c0))] (0 : Int32) fm c0 h0 n0 Z0 hE hV hC hB hS hw0 hfm hF sA sH sL (by decide) (by decide) (by decide) (by decide) rfl rfl hg
theorem d11_12 : decode prog_27_method_5_code 12 = .ok (.iload_n 1, 1) := by decide +kernel
theorem d11_13 : decode prog_27_method_5_code 13 = .ok (.ifCond .eq 34, 3) := by decide +kernel
theorem d11_16 : decode prog_27_method_5_code 16 = .ok (.aload_n 0, 1) := by decide +kernel
theorem d11_17 : decode prog_27_method_5_code 17 = .ok (.iload_n 2, 1) := by decide +kernel
theorem d11_18 : decode prog_27_method_5_code 18 = .ok (.invokevirtual 161, 3) := by decide +kernel
theorem d11_21 : decode prog_27_method_5_code 21 = .ok (.istore_n 3, 1) := by decide +kernel
theorem d11_22 : decode prog_27_method_5_code 22 = .ok (.iload_n 3, 1) := by decide +kernel
theorem d11_23 : decode prog_27_method_5_code 23 = .ok (.bipush 9, 2) := by decide +kernel
theorem d11_25 : decode prog_27_method_5_code 25 = .ok (.if_icmp .eq 10, 3) := by decide +kernel
theorem d11_28 : decode prog_27_method_5_code 28 = .ok (.iload_n 3, 1) := by decide +kernel
theorem d11_29 : decode prog_27_method_5_code 29 = .ok (.invokestatic 171, 3) := by decide +kernel
theorem d11_32 : decode prog_27_method_5_code 32 = .ok (.ifCond .ne 7, 3) := by decide +kernel
theorem d11_35 : decode prog_27_method_5_code 35 = .ok (.iconst 1, 1) := by decide +kernel
theorem d11_36 : decode prog_27_method_5_code 36 = .ok (.goto 4, 3) := by decide +kernel
theorem d11_39 : decode prog_27_method_5_code 39 = .ok (.iconst 0, 1) := by decide +kernel
theorem d11_40 : decode prog_27_method_5_code 40 = .ok (.istore_n 1, 1) := by decide +kernel
theorem d11_41 : decode prog_27_method_5_code 41 = .ok (.iinc 2 1, 3) := by decide +kernel
theorem d11_44 : decode prog_27_method_5_code 44 = .ok (.goto (-40), 3) := by decide +kernel
theorem pd__I_C : parseMethodDescriptor "(I)C" = some ⟨[.int], some .char⟩ := by decide +kernel
theorem pd__C_Z : parseMethodDescriptor "(C)Z" = some ⟨[.char], some .boolean⟩ := by decide +kernel
def QrmFv_1 (Z : State) (a0 : Addr) (wC : Int32) (fm : Value) (c0 : Int32) (h0 : Heap) (n0 : Nat) (v : Option Value) (h : Heap) (L : List Loc) : Prop := v = some (.int (own_fv [c0])) ∧ Fr n0 L ∧ h = h0
set_option maxRecDepth 65536 in
set_option maxHeartbeats 40000000 in
theorem rmFv_1 (l : Launch) (Z : State) (av0 : Array Value) (hw : ∀ d ∈ tables_1, d.before av0 Z = true) (ws : List Jvm.Cond) (a0 : Addr) (wC : Int32) (fm : Value) (c0 : Int32) (h0 : Heap) (n0 : Nat) (Z0 : n0 ≤ h0.size) (hE : Exa Z h0 a0 "java/lang/String") (hSt : own_St1 Z h0 a0 c0) (hS : Sta Z h0 "java/lang/String" "COMPACT_STRINGS" "Z" (.int wC)) (hw0 : ¬ wC = (0 : Int32)) (hfm : fm.isRef = true) (hF : Sta Z h0 "jdk/internal/util/Preconditions" "SIOOBE_FORMATTER" "Ljava/util/function/BiFunction;" fm) (sA : Sta Z h0 "java/lang/StringUTF16" "$assertionsDisabled" "Z" (.int (1 : Int32))) (sH : Sta Z h0 "java/lang/StringUTF16" "HI_BYTE_SHIFT" "I" (.int (0 : Int32))) (sL : Sta Z h0 "java/lang/StringUTF16" "LO_BYTE_SHIFT" "I" (.int (8 : Int32))) (hg0 : 0 ≤ c0.toInt ∧ c0.toInt < 65536) :
    own_Met l mN7 prog_27_method_5_code 4 (some .boolean) ws ({ frames := 5, cells := 0, slots := 0, locals := 66 } : Room) #[(.ref a0)] Z h0 (QrmFv_1 Z a0 wC fm c0 h0 n0) := by
  refine MetFree.of_bodySF (plainFor_of_name pn_HttpFields) hisR ?_
  intro p e s m args below meth c s₁ Bd hml0 hP hK
  obtain ⟨rfl, hZ, hh⟩ := hP
  have hml : c.maxLocals = 4 := hml0
  obtain ⟨hx, hby, hown, hnm, X0, e0⟩ := own_start Bd hml0 hh
  have N0 := Fr.nil n0
  have pre0 : ∀ t, oS p e below s₁ (mkF m 0 #[rv a0, .unset, .unset, .unset] []) t → Steps p.tables e below (s₁.setTop (entryFrame m #[(.ref a0)] 4)) t := fun t k => castTop (by first | (simp [entryFrame, mkF, argsToLocals, Value.category]; done) | rfl) k
  obtain ⟨_, T1, Lc1, X1, hQ1, st1⟩ := own_virtual (W := 1) (y := mN6) (z := mN6) X0 hx hZ hown (hw _ (own_w 51 rfl)) (hw _ (own_w 52 rfl)) (notFace_of_selects (args := #[]) (mvT hZ (hw _ (own_w 54 rfl)))) (hw _ (own_w 54 rfl)) (hw _ (own_w 53 rfl)) (hw _ (own_w 55 rfl)) (hw _ (own_w 2 rfl)) (by decide) (rmLenJ_1 l Z av0 hw [] a0 wC fm c0 h0 n0 Z0 hE hSt hS hw0) (by decide) (by decide) hE (g := (mkF m 6 #[rv a0, iv 1, iv 0, .unset] [(.ref a0), (.int 0)])) rfl (by rw [hml]; rfl) (argsL := []) (rest := [(.int 0)]) (lenOf pd__I rfl) rfl (hb hby d11_6) rfl e0 (by decide : 0 + 0 ≤ _) (by decide : 0 + 0 ≤ _)
  obtain ⟨rfl, N1q, hh1⟩ := hQ1
  have N1 := Fr.app N0 N1q
  have e1 : T1.heap = h0 := hh1
  obtain ⟨_, T2, Lc2, X2, hQ2, st2⟩ := own_virtual (W := 0) (y := mN15) (z := mN15) X1 hx hZ hown (hw _ (own_w 61 rfl)) (hw _ (own_w 62 rfl)) (notFace_of_selects (args := #[]) (mvT hZ (hw _ (own_w 64 rfl)))) (hw _ (own_w 64 rfl)) (hw _ (own_w 63 rfl)) (hw _ (own_w 65 rfl)) (hw _ (own_w 2 rfl)) (by decide) (rmChJ_1_0 l Z av0 hw [] a0 wC fm c0 h0 n0 Z0 hE hSt hS hw0 hfm hF sA sH sL hg0) (by decide) (by decide) hE (g := (mkF m 18 #[rv a0, iv 1, iv 0, .unset] [(.int 0), (.ref a0)])) rfl (by rw [hml]; rfl) (argsL := [(.int 0)]) (rest := []) (lenOf pd__I_C rfl) rfl (hb hby d11_18) rfl e1 (by decide : 0 + 0 ≤ _) (by decide : 0 + 0 ≤ _)
  obtain ⟨rfl, N2q, hh2⟩ := hQ2
  have N2 := Fr.app N1 N2q
  have e2 : T2.heap = h0 := hh2
  have S3 : ∀ t, oS p e below T2 (mkF m 25 #[rv a0, iv 1, iv 0, iv c0] [(.int 9), (.int c0)]) t → oS p e below s₁ (mkF m 0 #[rv a0, .unset, .unset, .unset] []) t := fun t k => id (by
    show oS p e below s₁ (mkF m 0 #[rv a0, .unset, .unset, .unset] []) _
    refine XT.iconstV X0.here hx rfl (1 : Int32) (hb hby d11_0) (by decide) ?_
    refine XS.istoreN X0.here hx rfl (hb hby d11_1) rfl (l' := #[rv a0, iv 1, .unset, .unset]) rfl ?_
    refine XT.iconstV X0.here hx rfl (0 : Int32) (hb hby d11_2) (by decide) ?_
    refine XS.istoreN X0.here hx rfl (hb hby d11_3) rfl (l' := #[rv a0, iv 1, iv 0, .unset]) rfl ?_
    refine XS.iloadN X0.here hx rfl (hb hby d11_4) rfl ?_
    refine XS.aloadN X0.here hx rfl (hb hby d11_5) rfl rfl ?_
    refine st1 _ ?_
    refine XS.icmpNo X1.here hx rfl (hb hby d11_9) rfl (XT.ii_ge_f (by decide)) ?_
    refine XS.iloadN X1.here hx rfl (hb hby d11_12) rfl ?_
    refine XS.ifNo X1.here hx rfl (hb hby d11_13) rfl (XT.i0_eq_f (by decide)) ?_
    refine XS.aloadN X1.here hx rfl (hb hby d11_16) rfl rfl ?_
    refine XS.iloadN X1.here hx rfl (hb hby d11_17) rfl ?_
    refine st2 _ ?_
    refine XS.istoreN X2.here hx rfl (hb hby d11_21) rfl (l' := #[rv a0, iv 1, iv 0, iv c0]) rfl ?_
    refine XS.iloadN X2.here hx rfl (hb hby d11_22) rfl ?_
    show oS p e below T2 (mkF m 23 #[rv a0, iv 1, iv 0, iv c0] [(.int c0)]) _
    refine XT.bipushV X2.here hx rfl (9 : Int32) (hb hby d11_23) (by decide) ?_
    exact k)
  by_cases hc25_4 : c0 = (9 : Int32)
  · obtain ⟨_, T5, Lc5, X5, hQ5, st5⟩ := own_virtual (W := 1) (y := mN6) (z := mN6) X2 hx hZ hown (hw _ (own_w 51 rfl)) (hw _ (own_w 52 rfl)) (notFace_of_selects (args := #[]) (mvT hZ (hw _ (own_w 54 rfl)))) (hw _ (own_w 54 rfl)) (hw _ (own_w 53 rfl)) (hw _ (own_w 55 rfl)) (hw _ (own_w 2 rfl)) (by decide) (rmLenJ_1 l Z av0 hw [] a0 wC fm c0 h0 n0 Z0 hE hSt hS hw0) (by decide) (by decide) hE (g := (mkF m 6 #[rv a0, iv 1, iv 1, iv c0] [(.ref a0), (.int 1)])) rfl (by rw [hml]; rfl) (argsL := []) (rest := [(.int 1)]) (lenOf pd__I rfl) rfl (hb hby d11_6) rfl e2 (by decide : 0 + 0 ≤ _) (by decide : 0 + 0 ≤ _)
    obtain ⟨rfl, N5q, hh5⟩ := hQ5
    have N5 := Fr.app N2 N5q
    have e5 : T5.heap = h0 := hh5
    have S6 : ∀ t, oS p e below T5 (mkF m 48 #[rv a0, iv 1, iv 1, iv c0] [(.int 1)]) t → oS p e below s₁ (mkF m 0 #[rv a0, .unset, .unset, .unset] []) t := fun t k => S3 t (by
      show oS p e below T2 (mkF m 25 #[rv a0, iv 1, iv 0, iv c0] [(.int 9), (.int c0)]) _
      refine XS.icmpYes X2.here hx rfl (pc0 := 25) (pc' := 35) rfl (hb hby d11_25) rfl (XT.ii_eq_t hc25_4) (by decide) (by decide) ?_
      refine XT.iconstV X2.here hx rfl (1 : Int32) (hb hby d11_35) (by decide) ?_
      refine XS.goto X2.here hx rfl (pc0 := 36) (pc' := 40) rfl (hb hby d11_36) (by decide) (by decide) ?_
      refine XS.istoreN X2.here hx rfl (hb hby d11_40) rfl (l' := #[rv a0, iv 1, iv 0, iv c0]) rfl ?_
      refine XT.iincV X2.here hx rfl (1 : Int32) (hb hby d11_41) (by decide) rfl (l' := #[rv a0, iv 1, iv 1, iv c0]) rfl ?_
      refine XS.goto X2.here hx rfl (pc0 := 44) (pc' := 4) rfl (hb hby d11_44) (by decide) (by decide) ?_
      refine XS.iloadN X2.here hx rfl (hb hby d11_4) rfl ?_
      refine XS.aloadN X2.here hx rfl (hb hby d11_5) rfl rfl ?_
      refine st5 _ ?_
      refine XS.icmpYes X5.here hx rfl (pc0 := 9) (pc' := 47) rfl (hb hby d11_9) rfl (XT.ii_ge_t (by decide)) (by decide) (by decide) ?_
      refine XS.iloadN X5.here hx rfl (hb hby d11_47) rfl ?_
      exact k)
    obtain ⟨fs, hr, hrun, hended, hW, hsame⟩ := X5.leave (v := some (.int 1)) (fun h => by rw [Bd.returns] at h; cases h)
    refine ⟨_, _, pre0 _ (S6 _ ?_), hrun, hended, _, _, rfl, ?_, ⟨_, rfl⟩, hW, hsame.mono (by decide) (by decide)⟩
    · exact retN X5 hx (t := .boolean) Bd.returns (by simp) (hb hby d11_48) hr
    · show QrmFv_1 Z a0 wC fm c0 h0 n0 _ T5.heap _
      rw [e5]
      exact ⟨by simp [own_fv, hc25_4], N5, rfl⟩
  · obtain ⟨_, T7, Lc7, X7, hQ7, st7⟩ := own_callS (W := 0) (y := mN1) X2 hx hZ hown (hw _ (own_w 82 rfl)) (hw _ (own_w 83 rfl)) (hw _ (own_w 84 rfl)) (hw _ (own_w 85 rfl)) (by decide) (rmIsoC l Z av0 hw [] c0 h0 n0 Z0 ) (by decide) (by decide) (g := (mkF m 29 #[rv a0, iv 1, iv 0, iv c0] [(.int c0)])) rfl (by rw [hml]; rfl) (argsL := [(.int c0)]) (rest := []) (lenOf pd__C_Z rfl) rfl (hb hby d11_29) rfl e2 (by decide : 0 + 0 ≤ _) (by decide : 0 + 0 ≤ _)
    obtain ⟨rfl, N7q, hh7⟩ := hQ7
    have N7 := Fr.app N2 N7q
    have e7 : T7.heap = h0 := hh7
    have S8 : ∀ t, oS p e below T7 (mkF m 32 #[rv a0, iv 1, iv 0, iv c0] [(.int (own_iso c0))]) t → oS p e below s₁ (mkF m 0 #[rv a0, .unset, .unset, .unset] []) t := fun t k => S3 t (by
      show oS p e below T2 (mkF m 25 #[rv a0, iv 1, iv 0, iv c0] [(.int 9), (.int c0)]) _
      refine XS.icmpNo X2.here hx rfl (hb hby d11_25) rfl (XT.ii_eq_f hc25_4) ?_
      refine XS.iloadN X2.here hx rfl (hb hby d11_28) rfl ?_
      refine st7 _ ?_
      exact k)
    by_cases hc32_9 : (own_iso c0) = (0 : Int32)
    · obtain ⟨_, T10, Lc10, X10, hQ10, st10⟩ := own_virtual (W := 1) (y := mN6) (z := mN6) X7 hx hZ hown (hw _ (own_w 51 rfl)) (hw _ (own_w 52 rfl)) (notFace_of_selects (args := #[]) (mvT hZ (hw _ (own_w 54 rfl)))) (hw _ (own_w 54 rfl)) (hw _ (own_w 53 rfl)) (hw _ (own_w 55 rfl)) (hw _ (own_w 2 rfl)) (by decide) (rmLenJ_1 l Z av0 hw [] a0 wC fm c0 h0 n0 Z0 hE hSt hS hw0) (by decide) (by decide) hE (g := (mkF m 6 #[rv a0, iv 1, iv 1, iv c0] [(.ref a0), (.int 1)])) rfl (by rw [hml]; rfl) (argsL := []) (rest := [(.int 1)]) (lenOf pd__I rfl) rfl (hb hby d11_6) rfl e7 (by decide : 0 + 0 ≤ _) (by decide : 0 + 0 ≤ _)
      obtain ⟨rfl, N10q, hh10⟩ := hQ10
      have N10 := Fr.app N7 N10q
      have e10 : T10.heap = h0 := hh10
      have S11 : ∀ t, oS p e below T10 (mkF m 48 #[rv a0, iv 1, iv 1, iv c0] [(.int 1)]) t → oS p e below s₁ (mkF m 0 #[rv a0, .unset, .unset, .unset] []) t := fun t k => S8 t (by
        show oS p e below T7 (mkF m 32 #[rv a0, iv 1, iv 0, iv c0] [(.int (own_iso c0))]) _
        refine XS.ifNo X7.here hx rfl (hb hby d11_32) rfl (XT.i0_ne_f hc32_9) ?_
        refine XT.iconstV X7.here hx rfl (1 : Int32) (hb hby d11_35) (by decide) ?_
        refine XS.goto X7.here hx rfl (pc0 := 36) (pc' := 40) rfl (hb hby d11_36) (by decide) (by decide) ?_
        refine XS.istoreN X7.here hx rfl (hb hby d11_40) rfl (l' := #[rv a0, iv 1, iv 0, iv c0]) rfl ?_
        refine XT.iincV X7.here hx rfl (1 : Int32) (hb hby d11_41) (by decide) rfl (l' := #[rv a0, iv 1, iv 1, iv c0]) rfl ?_
        refine XS.goto X7.here hx rfl (pc0 := 44) (pc' := 4) rfl (hb hby d11_44) (by decide) (by decide) ?_
        refine XS.iloadN X7.here hx rfl (hb hby d11_4) rfl ?_
        refine XS.aloadN X7.here hx rfl (hb hby d11_5) rfl rfl ?_
        refine st10 _ ?_
        refine XS.icmpYes X10.here hx rfl (pc0 := 9) (pc' := 47) rfl (hb hby d11_9) rfl (XT.ii_ge_t (by decide)) (by decide) (by decide) ?_
        refine XS.iloadN X10.here hx rfl (hb hby d11_47) rfl ?_
        show oS p e below T10 (mkF m 48 #[rv a0, iv 1, iv 1, iv c0] [(.int 1)]) _
        exact k)
      obtain ⟨fs, hr, hrun, hended, hW, hsame⟩ := X10.leave (v := some (.int 1)) (fun h => by rw [Bd.returns] at h; cases h)
      refine ⟨_, _, pre0 _ (S11 _ ?_), hrun, hended, _, _, rfl, ?_, ⟨_, rfl⟩, hW, hsame.mono (by decide) (by decide)⟩
      · exact retN X10 hx (t := .boolean) Bd.returns (by simp) (hb hby d11_48) hr
      · show QrmFv_1 Z a0 wC fm c0 h0 n0 _ T10.heap _
        rw [e10]
        exact ⟨by simp [own_fv, hc25_4, hc32_9], N10, rfl⟩
    · obtain ⟨_, T12, Lc12, X12, hQ12, st12⟩ := own_virtual (W := 1) (y := mN6) (z := mN6) X7 hx hZ hown (hw _ (own_w 51 rfl)) (hw _ (own_w 52 rfl)) (notFace_of_selects (args := #[]) (mvT hZ (hw _ (own_w 54 rfl)))) (hw _ (own_w 54 rfl)) (hw _ (own_w 53 rfl)) (hw _ (own_w 55 rfl)) (hw _ (own_w 2 rfl)) (by decide) (rmLenJ_1 l Z av0 hw [] a0 wC fm c0 h0 n0 Z0 hE hSt hS hw0) (by decide) (by decide) hE (g := (mkF m 6 #[rv a0, iv 0, iv 1, iv c0] [(.ref a0), (.int 1)])) rfl (by rw [hml]; rfl) (argsL := []) (rest := [(.int 1)]) (lenOf pd__I rfl) rfl (hb hby d11_6) rfl e7 (by decide : 0 + 0 ≤ _) (by decide : 0 + 0 ≤ _)
      obtain ⟨rfl, N12q, hh12⟩ := hQ12
      have N12 := Fr.app N7 N12q
      have e12 : T12.heap = h0 := hh12
      have S13 : ∀ t, oS p e below T12 (mkF m 48 #[rv a0, iv 0, iv 1, iv c0] [(.int 0)]) t → oS p e below s₁ (mkF m 0 #[rv a0, .unset, .unset, .unset] []) t := fun t k => S8 t (by
        show oS p e below T7 (mkF m 32 #[rv a0, iv 1, iv 0, iv c0] [(.int (own_iso c0))]) _
        refine XS.ifYes X7.here hx rfl (pc0 := 32) (pc' := 39) rfl (hb hby d11_32) rfl (XT.i0_ne_t hc32_9) (by decide) (by decide) ?_
        refine XT.iconstV X7.here hx rfl (0 : Int32) (hb hby d11_39) (by decide) ?_
        refine XS.istoreN X7.here hx rfl (hb hby d11_40) rfl (l' := #[rv a0, iv 0, iv 0, iv c0]) rfl ?_
        refine XT.iincV X7.here hx rfl (1 : Int32) (hb hby d11_41) (by decide) rfl (l' := #[rv a0, iv 0, iv 1, iv c0]) rfl ?_
        refine XS.goto X7.here hx rfl (pc0 := 44) (pc' := 4) rfl (hb hby d11_44) (by decide) (by decide) ?_
        refine XS.iloadN X7.here hx rfl (hb hby d11_4) rfl ?_
        refine XS.aloadN X7.here hx rfl (hb hby d11_5) rfl rfl ?_
        refine st12 _ ?_
        refine XS.icmpYes X12.here hx rfl (pc0 := 9) (pc' := 47) rfl (hb hby d11_9) rfl (XT.ii_ge_t (by decide)) (by decide) (by decide) ?_
        refine XS.iloadN X12.here hx rfl (hb hby d11_47) rfl ?_
        exact k)
      obtain ⟨fs, hr, hrun, hended, hW, hsame⟩ := X12.leave (v := some (.int 0)) (fun h => by rw [Bd.returns] at h; cases h)
      refine ⟨_, _, pre0 _ (S13 _ ?_), hrun, hended, _, _, rfl, ?_, ⟨_, rfl⟩, hW, hsame.mono (by decide) (by decide)⟩
      · exact retN X12 hx (t := .boolean) Bd.returns (by simp) (hb hby d11_48) hr
      · show QrmFv_1 Z a0 wC fm c0 h0 n0 _ T12.heap _
        rw [e12]
        exact ⟨by simp [own_fv, hc25_4, hc32_9], N12, rfl⟩
def own_St2 (Z : State) (h : Heap) (a : Addr) (c0 : Int32) (c1 : Int32) : Prop := (∃ (b : Addr) (k : ClassId), Fld Z h a "java/lang/String" "value" "[B" (.ref b) ∧ Fld Z h a "java/lang/String" "coder" "B" (.int (0 : Int32)) ∧ Arv Z h b k .byte (2 : Int32) [(.int (own_b c0)), (.int (own_b c1))] (.int (0 : Int32)) ∧ ¬ (255 : Int32) < c0 ∧ ¬ (255 : Int32) < c1) ∨ (∃ (b : Addr) (k : ClassId), Fld Z h a "java/lang/String" "value" "[B" (.ref b) ∧ Fld Z h a "java/lang/String" "coder" "B" (.int (1 : Int32)) ∧ Arv Z h b k .byte (4 : Int32) [(.int (own_lo c0)), (.int (own_hi c0)), (.int (own_lo c1)), (.int (own_hi c1))] (.int (0 : Int32)))
theorem own_St2_ext {Z : State} {h h' : Heap} {a : Addr} {c0 : Int32} {c1 : Int32} (S : own_St2 Z h a c0 c1) (E : Ext h h') : own_St2 Z h' a c0 c1 := by
  rcases S with ⟨b, k, f, g, A, r0, r1⟩ | ⟨b, k, f, g, A⟩
  · exact Or.inl ⟨b, k, f.ext E, g.ext E, A.ext E, r0, r1⟩
  · exact Or.inr ⟨b, k, f.ext E, g.ext E, A.ext E⟩
theorem own_St2_wr {Z : State} {h h' : Heap} {a : Addr} {c0 : Int32} {c1 : Int32} (S : own_St2 Z h a c0 c1) {o : Addr} {sl : Nat} {v : Value} (W : Wr h h' o sl v) (hn : a ≠ o) (hb : ∀ {b k z vs d}, Arv Z h b k .byte z vs d → b ≠ o) : own_St2 Z h' a c0 c1 := by
  rcases S with ⟨b, k, f, g, A, r0, r1⟩ | ⟨b, k, f, g, A⟩
  · exact Or.inl ⟨b, k, f.other W (Or.inl hn), g.other W (Or.inl hn), A.other W (hb A), r0, r1⟩
  · exact Or.inr ⟨b, k, f.other W (Or.inl hn), g.other W (Or.inl hn), A.other W (hb A)⟩
theorem own_St2_k0 {Z : State} {h h' : Heap} {a : Addr} {c0 : Int32} {c1 : Int32} (S : own_St2 Z h a c0 c1) (K : Keep h h' []) : own_St2 Z h' a c0 c1 := by
  rcases S with ⟨b, k, f, g, A, r0, r1⟩ | ⟨b, k, f, g, A⟩
  · exact Or.inl ⟨b, k, f.keep K nin0, g.keep K nin0, A.keep K nin0, r0, r1⟩
  · exact Or.inr ⟨b, k, f.keep K nin0, g.keep K nin0, A.keep K nin0⟩
theorem own_St2_k1 {Z : State} {h h' : Heap} {a : Addr} {c0 : Int32} {c1 : Int32} (S : own_St2 Z h a c0 c1) {o : Addr} (K : Keep h h' [o]) (hn : a ≠ o) (hb : ∀ {b k z vs d}, Arv Z h b k .byte z vs d → b ≠ o) : own_St2 Z h' a c0 c1 := by
  rcases S with ⟨b, k, f, g, A, r0, r1⟩ | ⟨b, k, f, g, A⟩
  · exact Or.inl ⟨b, k, f.keep K (ninS hn nin0), g.keep K (ninS hn nin0), A.keep K (ninS (hb A) nin0), r0, r1⟩
  · exact Or.inr ⟨b, k, f.keep K (ninS hn nin0), g.keep K (ninS hn nin0), A.keep K (ninS (hb A) nin0)⟩
def QrmLen_2_0 (Z : State) (a0 : Addr) (ab : Addr) (kb : ClassId) (wC : Int32) (c0 : Int32) (c1 : Int32) (h0 : Heap) (n0 : Nat) (v : Option Value) (h : Heap) (L : List Loc) : Prop := v = some (.int (2 : Int32)) ∧ Fr n0 L ∧ h = h0
set_option maxRecDepth 65536 in
set_option maxHeartbeats 40000000 in
theorem rmLen_2_0 (l : Launch) (Z : State) (av0 : Array Value) (hw : ∀ d ∈ tables_1, d.before av0 Z = true) (ws : List Jvm.Cond) (a0 : Addr) (ab : Addr) (kb : ClassId) (wC : Int32) (c0 : Int32) (c1 : Int32) (h0 : Heap) (n0 : Nat) (Z0 : n0 ≤ h0.size) (hE : Exa Z h0 a0 "java/lang/String") (hV : Fld Z h0 a0 "java/lang/String" "value" "[B" (.ref ab)) (hC : Fld Z h0 a0 "java/lang/String" "coder" "B" (.int (0 : Int32))) (hB : Arv Z h0 ab kb .byte (2 : Int32) [(.int (own_b c0)), (.int (own_b c1))] (.int (0 : Int32))) (hS : Sta Z h0 "java/lang/String" "COMPACT_STRINGS" "Z" (.int wC)) (hw0 : ¬ wC = (0 : Int32)) :
    own_Met l mN6 jdk_42_method_54_code 1 (some .int) ws ({ frames := 1, cells := 0, slots := 0, locals := 13 } : Room) #[(.ref a0)] Z h0 (QrmLen_2_0 Z a0 ab kb wC c0 c1 h0 n0) := by
  refine MetFree.of_bodySF (plainFor_of_name pn_String) hisR ?_
  intro p e s m args below meth c s₁ Bd hml0 hP hK
  obtain ⟨rfl, hZ, hh⟩ := hP
  have hml : c.maxLocals = 1 := hml0
  obtain ⟨hx, hby, hown, hnm, X0, e0⟩ := own_start Bd hml0 hh
  have N0 := Fr.nil n0
  have pre0 : ∀ t, oS p e below s₁ (mkF m 0 #[rv a0] []) t → Steps p.tables e below (s₁.setTop (entryFrame m #[(.ref a0)] 1)) t := fun t k => castTop (by first | (simp [entryFrame, mkF, argsToLocals, Value.category]; done) | rfl) k
  obtain ⟨T1, X1, e1, st1⟩ := getF X0 hx hZ hown (host := "") (Or.inl (hw _ (own_w 20 rfl))) Via.refl e0 hV (g := (mkF m 1 #[rv a0] [(.ref a0)])) rfl rfl (hb hby d12_1)
  obtain ⟨cl2, Ar2, qk2, Sz2, Ng2, Hs2, Gs2⟩ := id hB
  obtain ⟨_, T3, Lc3, X3, hQ3, st3⟩ := own_virtual (W := 1) (y := mN5) (z := mN5) X1 hx hZ hown (hw _ (own_w 56 rfl)) (hw _ (own_w 57 rfl)) (notFace_of_selects (args := #[]) (mvT hZ (hw _ (own_w 59 rfl)))) (hw _ (own_w 59 rfl)) (hw _ (own_w 58 rfl)) (hw _ (own_w 60 rfl)) (hw _ (own_w 2 rfl)) (by decide) (rmCoder_0 l Z av0 hw [] a0 wC h0 n0 Z0 hS hw0 hC) (by decide) (by decide) hE (g := (mkF m 6 #[rv a0] [(.ref a0), (.int 2)])) rfl (by rw [hml]; rfl) (argsL := []) (rest := [(.int 2)]) (lenOf pd__B rfl) rfl (hb hby d12_6) rfl e1 (by decide : 0 + 0 ≤ _) (by decide : 0 + 0 ≤ _)
  obtain ⟨rfl, N3q, hh3⟩ := hQ3
  have N3 := Fr.app N0 N3q
  have e3 : T3.heap = h0 := hh3
  have S4 : ∀ t, oS p e below T3 (mkF m 10 #[rv a0] [(.int 2)]) t → oS p e below s₁ (mkF m 0 #[rv a0] []) t := fun t k => id (by
    show oS p e below s₁ (mkF m 0 #[rv a0] []) _
    refine XS.aloadN X0.here hx rfl (hb hby d12_0) rfl rfl ?_
    refine st1 _ ?_
    refine X1.arraylength hx (by rw [e1]; exact Ar2.1) (State.isArrayOf_alike hZ.alike Ar2.2.1) (g := (mkF m 4 #[rv a0] [(.ref ab)])) rfl rfl (hb hby d12_4) _ ?_
    rw [len_of Sz2 Ng2]
    refine XS.aloadN X1.here hx rfl (hb hby d12_5) rfl rfl ?_
    refine st3 _ ?_
    refine XT.ishr X3.here hx rfl (hb hby d12_9) rfl ?_
    exact k)
  obtain ⟨fs, hr, hrun, hended, hW, hsame⟩ := X3.leave (v := some (.int 2)) (fun h => by rw [Bd.returns] at h; cases h)
  refine ⟨_, _, pre0 _ (S4 _ ?_), hrun, hended, _, _, rfl, ?_, ⟨_, rfl⟩, hW, hsame.mono (by decide) (by decide)⟩
  · exact retI X3 hx Bd.returns (hb hby d12_10) hr
  · show QrmLen_2_0 Z a0 ab kb wC c0 c1 h0 n0 _ T3.heap _
    rw [e3]
    exact ⟨congrArg (fun z => some (Value.int z)) (by decide), N3, rfl⟩
def QrmLen_2_1 (Z : State) (a0 : Addr) (ab : Addr) (kb : ClassId) (wC : Int32) (c0 : Int32) (c1 : Int32) (h0 : Heap) (n0 : Nat) (v : Option Value) (h : Heap) (L : List Loc) : Prop := v = some (.int (2 : Int32)) ∧ Fr n0 L ∧ h = h0
set_option maxRecDepth 65536 in
set_option maxHeartbeats 40000000 in
theorem rmLen_2_1 (l : Launch) (Z : State) (av0 : Array Value) (hw : ∀ d ∈ tables_1, d.before av0 Z = true) (ws : List Jvm.Cond) (a0 : Addr) (ab : Addr) (kb : ClassId) (wC : Int32) (c0 : Int32) (c1 : Int32) (h0 : Heap) (n0 : Nat) (Z0 : n0 ≤ h0.size) (hE : Exa Z h0 a0 "java/lang/String") (hV : Fld Z h0 a0 "java/lang/String" "value" "[B" (.ref ab)) (hC : Fld Z h0 a0 "java/lang/String" "coder" "B" (.int (1 : Int32))) (hB : Arv Z h0 ab kb .byte (4 : Int32) [(.int (own_lo c0)), (.int (own_hi c0)), (.int (own_lo c1)), (.int (own_hi c1))] (.int (0 : Int32))) (hS : Sta Z h0 "java/lang/String" "COMPACT_STRINGS" "Z" (.int wC)) (hw0 : ¬ wC = (0 : Int32)) :
    own_Met l mN6 jdk_42_method_54_code 1 (some .int) ws ({ frames := 1, cells := 0, slots := 0, locals := 13 } : Room) #[(.ref a0)] Z h0 (QrmLen_2_1 Z a0 ab kb wC c0 c1 h0 n0) := by
  refine MetFree.of_bodySF (plainFor_of_name pn_String) hisR ?_
  intro p e s m args below meth c s₁ Bd hml0 hP hK
  obtain ⟨rfl, hZ, hh⟩ := hP
  have hml : c.maxLocals = 1 := hml0
  obtain ⟨hx, hby, hown, hnm, X0, e0⟩ := own_start Bd hml0 hh
  have N0 := Fr.nil n0
  have pre0 : ∀ t, oS p e below s₁ (mkF m 0 #[rv a0] []) t → Steps p.tables e below (s₁.setTop (entryFrame m #[(.ref a0)] 1)) t := fun t k => castTop (by first | (simp [entryFrame, mkF, argsToLocals, Value.category]; done) | rfl) k
  obtain ⟨T1, X1, e1, st1⟩ := getF X0 hx hZ hown (host := "") (Or.inl (hw _ (own_w 20 rfl))) Via.refl e0 hV (g := (mkF m 1 #[rv a0] [(.ref a0)])) rfl rfl (hb hby d12_1)
  obtain ⟨cl2, Ar2, qk2, Sz2, Ng2, Hs2, Gs2⟩ := id hB
  obtain ⟨_, T3, Lc3, X3, hQ3, st3⟩ := own_virtual (W := 1) (y := mN5) (z := mN5) X1 hx hZ hown (hw _ (own_w 56 rfl)) (hw _ (own_w 57 rfl)) (notFace_of_selects (args := #[]) (mvT hZ (hw _ (own_w 59 rfl)))) (hw _ (own_w 59 rfl)) (hw _ (own_w 58 rfl)) (hw _ (own_w 60 rfl)) (hw _ (own_w 2 rfl)) (by decide) (rmCoder_1 l Z av0 hw [] a0 wC h0 n0 Z0 hS hw0 hC) (by decide) (by decide) hE (g := (mkF m 6 #[rv a0] [(.ref a0), (.int 4)])) rfl (by rw [hml]; rfl) (argsL := []) (rest := [(.int 4)]) (lenOf pd__B rfl) rfl (hb hby d12_6) rfl e1 (by decide : 0 + 0 ≤ _) (by decide : 0 + 0 ≤ _)
  obtain ⟨rfl, N3q, hh3⟩ := hQ3
  have N3 := Fr.app N0 N3q
  have e3 : T3.heap = h0 := hh3
  have S4 : ∀ t, oS p e below T3 (mkF m 10 #[rv a0] [(.int 2)]) t → oS p e below s₁ (mkF m 0 #[rv a0] []) t := fun t k => id (by
    show oS p e below s₁ (mkF m 0 #[rv a0] []) _
    refine XS.aloadN X0.here hx rfl (hb hby d12_0) rfl rfl ?_
    refine st1 _ ?_
    refine X1.arraylength hx (by rw [e1]; exact Ar2.1) (State.isArrayOf_alike hZ.alike Ar2.2.1) (g := (mkF m 4 #[rv a0] [(.ref ab)])) rfl rfl (hb hby d12_4) _ ?_
    rw [len_of Sz2 Ng2]
    refine XS.aloadN X1.here hx rfl (hb hby d12_5) rfl rfl ?_
    refine st3 _ ?_
    refine XT.ishr X3.here hx rfl (hb hby d12_9) rfl ?_
    exact k)
  obtain ⟨fs, hr, hrun, hended, hW, hsame⟩ := X3.leave (v := some (.int 2)) (fun h => by rw [Bd.returns] at h; cases h)
  refine ⟨_, _, pre0 _ (S4 _ ?_), hrun, hended, _, _, rfl, ?_, ⟨_, rfl⟩, hW, hsame.mono (by decide) (by decide)⟩
  · exact retI X3 hx Bd.returns (hb hby d12_10) hr
  · show QrmLen_2_1 Z a0 ab kb wC c0 c1 h0 n0 _ T3.heap _
    rw [e3]
    exact ⟨congrArg (fun z => some (Value.int z)) (by decide), N3, rfl⟩
theorem rmLenJ_2 (l : Launch) (Z : State) (av0 : Array Value) (hw : ∀ d ∈ tables_1, d.before av0 Z = true) (ws : List Jvm.Cond) (a0 : Addr) (wC : Int32) (fm : Value) (c0 : Int32) (c1 : Int32) (h0 : Heap) (n0 : Nat) (Z0 : n0 ≤ h0.size) (hE : Exa Z h0 a0 "java/lang/String") (hSt : own_St2 Z h0 a0 c0 c1) (hS : Sta Z h0 "java/lang/String" "COMPACT_STRINGS" "Z" (.int wC)) (hw0 : ¬ wC = (0 : Int32))  :
    own_Met l mN6 jdk_42_method_54_code 1 (some .int) ws ({ frames := 1, cells := 0, slots := 0, locals := 13 } : Room) #[(.ref a0)] Z h0 (fun v h L => v = some (.int (2 : Int32)) ∧ Fr n0 L ∧ h = h0) := by
  rcases hSt with ⟨ab, kb, hV, hC, hB, lt0, lt1⟩ | ⟨ab, kb, hV, hC, hB⟩
  · exact rmLen_2_0 l Z av0 hw ws a0 ab kb wC c0 c1 h0 n0 Z0 hE hV hC hB hS hw0
  · exact rmLen_2_1 l Z av0 hw ws a0 ab kb wC c0 c1 h0 n0 Z0 hE hV hC hB hS hw0
theorem rmChJ_2_0 (l : Launch) (Z : State) (av0 : Array Value) (hw : ∀ d ∈ tables_1, d.before av0 Z = true) (ws : List Jvm.Cond) (a0 : Addr) (wC : Int32) (fm : Value) (c0 : Int32) (c1 : Int32) (h0 : Heap) (n0 : Nat) (Z0 : n0 ≤ h0.size) (hE : Exa Z h0 a0 "java/lang/String") (hSt : own_St2 Z h0 a0 c0 c1) (hS : Sta Z h0 "java/lang/String" "COMPACT_STRINGS" "Z" (.int wC)) (hw0 : ¬ wC = (0 : Int32)) (hfm : fm.isRef = true) (hF : Sta Z h0 "jdk/internal/util/Preconditions" "SIOOBE_FORMATTER" "Ljava/util/function/BiFunction;" fm) (sA : Sta Z h0 "java/lang/StringUTF16" "$assertionsDisabled" "Z" (.int (1 : Int32))) (sH : Sta Z h0 "java/lang/StringUTF16" "HI_BYTE_SHIFT" "I" (.int (0 : Int32))) (sL : Sta Z h0 "java/lang/StringUTF16" "LO_BYTE_SHIFT" "I" (.int (8 : Int32))) (hg : 0 ≤ c0.toInt ∧ c0.toInt < 65536) :
    own_Met l mN15 jdk_42_method_56_code 2 (some .char) ws ({ frames := 4, cells := 0, slots := 0, locals := 53 } : Room) #[(.ref a0), (.int (0 : Int32))] Z h0 (fun v h L => v = some (.int c0) ∧ Fr n0 L ∧ h = h0) := by
  rcases hSt with ⟨ab, kb, hV, hC, hB, lt0, lt1⟩ | ⟨ab, kb, hV, hC, hB⟩
  · exact rmCh0 l Z av0 hw ws a0 ab kb wC (2 : Int32) [(.int (own_b c0)), (.int (own_b c1))] (0 : Int32) fm c0 h0 n0 Z0 hE hV hC hB hS hw0 hfm hF (by decide) (by decide) rfl ⟨hg.1, lt0⟩
  · exact rmCh1 l Z av0 hw ws a0 ab kb wC (4 : Int32) [(.int (own_lo c0)), (.int (own_hi c0)), (.int (own_lo c1)), (.int (own_hi c1))] (0 : Int32) fm c0 h0 n0 Z0 hE hV hC hB hS hw0 hfm hF sA sH sL (by decide) (by decide) (by decide) (by decide) rfl rfl hg
theorem rmChJ_2_1 (l : Launch) (Z : State) (av0 : Array Value) (hw : ∀ d ∈ tables_1, d.before av0 Z = true) (ws : List Jvm.Cond) (a0 : Addr) (wC : Int32) (fm : Value) (c0 : Int32) (c1 : Int32) (h0 : Heap) (n0 : Nat) (Z0 : n0 ≤ h0.size) (hE : Exa Z h0 a0 "java/lang/String") (hSt : own_St2 Z h0 a0 c0 c1) (hS : Sta Z h0 "java/lang/String" "COMPACT_STRINGS" "Z" (.int wC)) (hw0 : ¬ wC = (0 : Int32)) (hfm : fm.isRef = true) (hF : Sta Z h0 "jdk/internal/util/Preconditions" "SIOOBE_FORMATTER" "Ljava/util/function/BiFunction;" fm) (sA : Sta Z h0 "java/lang/StringUTF16" "$assertionsDisabled" "Z" (.int (1 : Int32))) (sH : Sta Z h0 "java/lang/StringUTF16" "HI_BYTE_SHIFT" "I" (.int (0 : Int32))) (sL : Sta Z h0 "java/lang/StringUTF16" "LO_BYTE_SHIFT" "I" (.int (8 : Int32))) (hg : 0 ≤ c1.toInt ∧ c1.toInt < 65536) :
    own_Met l mN15 jdk_42_method_56_code 2 (some .char) ws ({ frames := 4, cells := 0, slots := 0, locals := 53 } : Room) #[(.ref a0), (.int (1 : Int32))] Z h0 (fun v h L => v = some (.int c1) ∧ Fr n0 L ∧ h = h0) := by
  rcases hSt with ⟨ab, kb, hV, hC, hB, lt0, lt1⟩ | ⟨ab, kb, hV, hC, hB⟩
  · exact rmCh0 l Z av0 hw ws a0 ab kb wC (2 : Int32) [(.int (own_b c0)), (.int (own_b c1))] (1 : Int32) fm c1 h0 n0 Z0 hE hV hC hB hS hw0 hfm hF (by decide) (by decide) rfl ⟨hg.1, lt1⟩
  · exact rmCh1 l Z av0 hw ws a0 ab kb wC (4 : Int32) [(.int (own_lo c0)), (.int (own_hi c0)), (.int (own_lo c1)), (.int (own_hi c1))] (1 : Int32) fm c1 h0 n0 Z0 hE hV hC hB hS hw0 hfm hF sA sH sL (by decide) (by decide) (by decide) (by decide) rfl rfl hg
def QrmFv_2 (Z : State) (a0 : Addr) (wC : Int32) (fm : Value) (c0 : Int32) (c1 : Int32) (h0 : Heap) (n0 : Nat) (v : Option Value) (h : Heap) (L : List Loc) : Prop := v = some (.int (own_fv [c0, c1])) ∧ Fr n0 L ∧ h = h0
set_option maxRecDepth 65536 in
set_option maxHeartbeats 40000000 in
theorem rmFv_2 (l : Launch) (Z : State) (av0 : Array Value) (hw : ∀ d ∈ tables_1, d.before av0 Z = true) (ws : List Jvm.Cond) (a0 : Addr) (wC : Int32) (fm : Value) (c0 : Int32) (c1 : Int32) (h0 : Heap) (n0 : Nat) (Z0 : n0 ≤ h0.size) (hE : Exa Z h0 a0 "java/lang/String") (hSt : own_St2 Z h0 a0 c0 c1) (hS : Sta Z h0 "java/lang/String" "COMPACT_STRINGS" "Z" (.int wC)) (hw0 : ¬ wC = (0 : Int32)) (hfm : fm.isRef = true) (hF : Sta Z h0 "jdk/internal/util/Preconditions" "SIOOBE_FORMATTER" "Ljava/util/function/BiFunction;" fm) (sA : Sta Z h0 "java/lang/StringUTF16" "$assertionsDisabled" "Z" (.int (1 : Int32))) (sH : Sta Z h0 "java/lang/StringUTF16" "HI_BYTE_SHIFT" "I" (.int (0 : Int32))) (sL : Sta Z h0 "java/lang/StringUTF16" "LO_BYTE_SHIFT" "I" (.int (8 : Int32))) (hg0 : 0 ≤ c0.toInt ∧ c0.toInt < 65536) (hg1 : 0 ≤ c1.toInt ∧ c1.toInt < 65536) :
    own_Met l mN7 prog_27_method_5_code 4 (some .boolean) ws ({ frames := 5, cells := 0, slots := 0, locals := 66 } : Room) #[(.ref a0)] Z h0 (QrmFv_2 Z a0 wC fm c0 c1 h0 n0) := by
  refine MetFree.of_bodySF (plainFor_of_name pn_HttpFields) hisR ?_
  intro p e s m args below meth c s₁ Bd hml0 hP hK
  obtain ⟨rfl, hZ, hh⟩ := hP
  have hml : c.maxLocals = 4 := hml0
  obtain ⟨hx, hby, hown, hnm, X0, e0⟩ := own_start Bd hml0 hh
  have N0 := Fr.nil n0
  have pre0 : ∀ t, oS p e below s₁ (mkF m 0 #[rv a0, .unset, .unset, .unset] []) t → Steps p.tables e below (s₁.setTop (entryFrame m #[(.ref a0)] 4)) t := fun t k => castTop (by first | (simp [entryFrame, mkF, argsToLocals, Value.category]; done) | rfl) k
  obtain ⟨_, T1, Lc1, X1, hQ1, st1⟩ := own_virtual (W := 1) (y := mN6) (z := mN6) X0 hx hZ hown (hw _ (own_w 51 rfl)) (hw _ (own_w 52 rfl)) (notFace_of_selects (args := #[]) (mvT hZ (hw _ (own_w 54 rfl)))) (hw _ (own_w 54 rfl)) (hw _ (own_w 53 rfl)) (hw _ (own_w 55 rfl)) (hw _ (own_w 2 rfl)) (by decide) (rmLenJ_2 l Z av0 hw [] a0 wC fm c0 c1 h0 n0 Z0 hE hSt hS hw0) (by decide) (by decide) hE (g := (mkF m 6 #[rv a0, iv 1, iv 0, .unset] [(.ref a0), (.int 0)])) rfl (by rw [hml]; rfl) (argsL := []) (rest := [(.int 0)]) (lenOf pd__I rfl) rfl (hb hby d11_6) rfl e0 (by decide : 0 + 0 ≤ _) (by decide : 0 + 0 ≤ _)
  obtain ⟨rfl, N1q, hh1⟩ := hQ1
  have N1 := Fr.app N0 N1q
  have e1 : T1.heap = h0 := hh1
  obtain ⟨_, T2, Lc2, X2, hQ2, st2⟩ := own_virtual (W := 0) (y := mN15) (z := mN15) X1 hx hZ hown (hw _ (own_w 61 rfl)) (hw _ (own_w 62 rfl)) (notFace_of_selects (args := #[]) (mvT hZ (hw _ (own_w 64 rfl)))) (hw _ (own_w 64 rfl)) (hw _ (own_w 63 rfl)) (hw _ (own_w 65 rfl)) (hw _ (own_w 2 rfl)) (by decide) (rmChJ_2_0 l Z av0 hw [] a0 wC fm c0 c1 h0 n0 Z0 hE hSt hS hw0 hfm hF sA sH sL hg0) (by decide) (by decide) hE (g := (mkF m 18 #[rv a0, iv 1, iv 0, .unset] [(.int 0), (.ref a0)])) rfl (by rw [hml]; rfl) (argsL := [(.int 0)]) (rest := []) (lenOf pd__I_C rfl) rfl (hb hby d11_18) rfl e1 (by decide : 0 + 0 ≤ _) (by decide : 0 + 0 ≤ _)
  obtain ⟨rfl, N2q, hh2⟩ := hQ2
  have N2 := Fr.app N1 N2q
  have e2 : T2.heap = h0 := hh2
  have S3 : ∀ t, oS p e below T2 (mkF m 25 #[rv a0, iv 1, iv 0, iv c0] [(.int 9), (.int c0)]) t → oS p e below s₁ (mkF m 0 #[rv a0, .unset, .unset, .unset] []) t := fun t k => id (by
    show oS p e below s₁ (mkF m 0 #[rv a0, .unset, .unset, .unset] []) _
    refine XT.iconstV X0.here hx rfl (1 : Int32) (hb hby d11_0) (by decide) ?_
    refine XS.istoreN X0.here hx rfl (hb hby d11_1) rfl (l' := #[rv a0, iv 1, .unset, .unset]) rfl ?_
    refine XT.iconstV X0.here hx rfl (0 : Int32) (hb hby d11_2) (by decide) ?_
    refine XS.istoreN X0.here hx rfl (hb hby d11_3) rfl (l' := #[rv a0, iv 1, iv 0, .unset]) rfl ?_
    refine XS.iloadN X0.here hx rfl (hb hby d11_4) rfl ?_
    refine XS.aloadN X0.here hx rfl (hb hby d11_5) rfl rfl ?_
    refine st1 _ ?_
    refine XS.icmpNo X1.here hx rfl (hb hby d11_9) rfl (XT.ii_ge_f (by decide)) ?_
    refine XS.iloadN X1.here hx rfl (hb hby d11_12) rfl ?_
    refine XS.ifNo X1.here hx rfl (hb hby d11_13) rfl (XT.i0_eq_f (by decide)) ?_
    refine XS.aloadN X1.here hx rfl (hb hby d11_16) rfl rfl ?_
    refine XS.iloadN X1.here hx rfl (hb hby d11_17) rfl ?_
    refine st2 _ ?_
    refine XS.istoreN X2.here hx rfl (hb hby d11_21) rfl (l' := #[rv a0, iv 1, iv 0, iv c0]) rfl ?_
    refine XS.iloadN X2.here hx rfl (hb hby d11_22) rfl ?_
    show oS p e below T2 (mkF m 23 #[rv a0, iv 1, iv 0, iv c0] [(.int c0)]) _
    refine XT.bipushV X2.here hx rfl (9 : Int32) (hb hby d11_23) (by decide) ?_
    exact k)
  by_cases hc25_4 : c0 = (9 : Int32)
  · obtain ⟨_, T5, Lc5, X5, hQ5, st5⟩ := own_virtual (W := 1) (y := mN6) (z := mN6) X2 hx hZ hown (hw _ (own_w 51 rfl)) (hw _ (own_w 52 rfl)) (notFace_of_selects (args := #[]) (mvT hZ (hw _ (own_w 54 rfl)))) (hw _ (own_w 54 rfl)) (hw _ (own_w 53 rfl)) (hw _ (own_w 55 rfl)) (hw _ (own_w 2 rfl)) (by decide) (rmLenJ_2 l Z av0 hw [] a0 wC fm c0 c1 h0 n0 Z0 hE hSt hS hw0) (by decide) (by decide) hE (g := (mkF m 6 #[rv a0, iv 1, iv 1, iv c0] [(.ref a0), (.int 1)])) rfl (by rw [hml]; rfl) (argsL := []) (rest := [(.int 1)]) (lenOf pd__I rfl) rfl (hb hby d11_6) rfl e2 (by decide : 0 + 0 ≤ _) (by decide : 0 + 0 ≤ _)
    obtain ⟨rfl, N5q, hh5⟩ := hQ5
    have N5 := Fr.app N2 N5q
    have e5 : T5.heap = h0 := hh5
    obtain ⟨_, T6, Lc6, X6, hQ6, st6⟩ := own_virtual (W := 0) (y := mN15) (z := mN15) X5 hx hZ hown (hw _ (own_w 61 rfl)) (hw _ (own_w 62 rfl)) (notFace_of_selects (args := #[]) (mvT hZ (hw _ (own_w 64 rfl)))) (hw _ (own_w 64 rfl)) (hw _ (own_w 63 rfl)) (hw _ (own_w 65 rfl)) (hw _ (own_w 2 rfl)) (by decide) (rmChJ_2_1 l Z av0 hw [] a0 wC fm c0 c1 h0 n0 Z0 hE hSt hS hw0 hfm hF sA sH sL hg1) (by decide) (by decide) hE (g := (mkF m 18 #[rv a0, iv 1, iv 1, iv c0] [(.int 1), (.ref a0)])) rfl (by rw [hml]; rfl) (argsL := [(.int 1)]) (rest := []) (lenOf pd__I_C rfl) rfl (hb hby d11_18) rfl e5 (by decide : 0 + 0 ≤ _) (by decide : 0 + 0 ≤ _)
    obtain ⟨rfl, N6q, hh6⟩ := hQ6
    have N6 := Fr.app N5 N6q
    have e6 : T6.heap = h0 := hh6
    have S7 : ∀ t, oS p e below T6 (mkF m 25 #[rv a0, iv 1, iv 1, iv c1] [(.int 9), (.int c1)]) t → oS p e below s₁ (mkF m 0 #[rv a0, .unset, .unset, .unset] []) t := fun t k => S3 t (by
      show oS p e below T2 (mkF m 25 #[rv a0, iv 1, iv 0, iv c0] [(.int 9), (.int c0)]) _
      refine XS.icmpYes X2.here hx rfl (pc0 := 25) (pc' := 35) rfl (hb hby d11_25) rfl (XT.ii_eq_t hc25_4) (by decide) (by decide) ?_
      refine XT.iconstV X2.here hx rfl (1 : Int32) (hb hby d11_35) (by decide) ?_
      refine XS.goto X2.here hx rfl (pc0 := 36) (pc' := 40) rfl (hb hby d11_36) (by decide) (by decide) ?_
      refine XS.istoreN X2.here hx rfl (hb hby d11_40) rfl (l' := #[rv a0, iv 1, iv 0, iv c0]) rfl ?_
      refine XT.iincV X2.here hx rfl (1 : Int32) (hb hby d11_41) (by decide) rfl (l' := #[rv a0, iv 1, iv 1, iv c0]) rfl ?_
      refine XS.goto X2.here hx rfl (pc0 := 44) (pc' := 4) rfl (hb hby d11_44) (by decide) (by decide) ?_
      refine XS.iloadN X2.here hx rfl (hb hby d11_4) rfl ?_
      refine XS.aloadN X2.here hx rfl (hb hby d11_5) rfl rfl ?_
      refine st5 _ ?_
      refine XS.icmpNo X5.here hx rfl (hb hby d11_9) rfl (XT.ii_ge_f (by decide)) ?_
      refine XS.iloadN X5.here hx rfl (hb hby d11_12) rfl ?_
      refine XS.ifNo X5.here hx rfl (hb hby d11_13) rfl (XT.i0_eq_f (by decide)) ?_
      refine XS.aloadN X5.here hx rfl (hb hby d11_16) rfl rfl ?_
      refine XS.iloadN X5.here hx rfl (hb hby d11_17) rfl ?_
      show oS p e below T5 (mkF m 18 #[rv a0, iv 1, iv 1, iv c0] [(.int 1), (.ref a0)]) _
      refine st6 _ ?_
      refine XS.istoreN X6.here hx rfl (hb hby d11_21) rfl (l' := #[rv a0, iv 1, iv 1, iv c1]) rfl ?_
      refine XS.iloadN X6.here hx rfl (hb hby d11_22) rfl ?_
      refine XT.bipushV X6.here hx rfl (9 : Int32) (hb hby d11_23) (by decide) ?_
      exact k)
    by_cases hc25_8 : c1 = (9 : Int32)
    · obtain ⟨_, T9, Lc9, X9, hQ9, st9⟩ := own_virtual (W := 1) (y := mN6) (z := mN6) X6 hx hZ hown (hw _ (own_w 51 rfl)) (hw _ (own_w 52 rfl)) (notFace_of_selects (args := #[]) (mvT hZ (hw _ (own_w 54 rfl)))) (hw _ (own_w 54 rfl)) (hw _ (own_w 53 rfl)) (hw _ (own_w 55 rfl)) (hw _ (own_w 2 rfl)) (by decide) (rmLenJ_2 l Z av0 hw [] a0 wC fm c0 c1 h0 n0 Z0 hE hSt hS hw0) (by decide) (by decide) hE (g := (mkF m 6 #[rv a0, iv 1, iv 2, iv c1] [(.ref a0), (.int 2)])) rfl (by rw [hml]; rfl) (argsL := []) (rest := [(.int 2)]) (lenOf pd__I rfl) rfl (hb hby d11_6) rfl e6 (by decide : 0 + 0 ≤ _) (by decide : 0 + 0 ≤ _)
      obtain ⟨rfl, N9q, hh9⟩ := hQ9
      have N9 := Fr.app N6 N9q
      have e9 : T9.heap = h0 := hh9
      have S10 : ∀ t, oS p e below T9 (mkF m 48 #[rv a0, iv 1, iv 2, iv c1] [(.int 1)]) t → oS p e below s₁ (mkF m 0 #[rv a0, .unset, .unset, .unset] []) t := fun t k => S7 t (by
        show oS p e below T6 (mkF m 25 #[rv a0, iv 1, iv 1, iv c1] [(.int 9), (.int c1)]) _
        refine XS.icmpYes X6.here hx rfl (pc0 := 25) (pc' := 35) rfl (hb hby d11_25) rfl (XT.ii_eq_t hc25_8) (by decide) (by decide) ?_
        refine XT.iconstV X6.here hx rfl (1 : Int32) (hb hby d11_35) (by decide) ?_
        refine XS.goto X6.here hx rfl (pc0 := 36) (pc' := 40) rfl (hb hby d11_36) (by decide) (by decide) ?_
        refine XS.istoreN X6.here hx rfl (hb hby d11_40) rfl (l' := #[rv a0, iv 1, iv 1, iv c1]) rfl ?_
        refine XT.iincV X6.here hx rfl (1 : Int32) (hb hby d11_41) (by decide) rfl (l' := #[rv a0, iv 1, iv 2, iv c1]) rfl ?_
        refine XS.goto X6.here hx rfl (pc0 := 44) (pc' := 4) rfl (hb hby d11_44) (by decide) (by decide) ?_
        refine XS.iloadN X6.here hx rfl (hb hby d11_4) rfl ?_
        refine XS.aloadN X6.here hx rfl (hb hby d11_5) rfl rfl ?_
        refine st9 _ ?_
        refine XS.icmpYes X9.here hx rfl (pc0 := 9) (pc' := 47) rfl (hb hby d11_9) rfl (XT.ii_ge_t (by decide)) (by decide) (by decide) ?_
        refine XS.iloadN X9.here hx rfl (hb hby d11_47) rfl ?_
        show oS p e below T9 (mkF m 48 #[rv a0, iv 1, iv 2, iv c1] [(.int 1)]) _
        exact k)
      obtain ⟨fs, hr, hrun, hended, hW, hsame⟩ := X9.leave (v := some (.int 1)) (fun h => by rw [Bd.returns] at h; cases h)
      refine ⟨_, _, pre0 _ (S10 _ ?_), hrun, hended, _, _, rfl, ?_, ⟨_, rfl⟩, hW, hsame.mono (by decide) (by decide)⟩
      · exact retN X9 hx (t := .boolean) Bd.returns (by simp) (hb hby d11_48) hr
      · show QrmFv_2 Z a0 wC fm c0 c1 h0 n0 _ T9.heap _
        rw [e9]
        exact ⟨by simp [own_fv, hc25_4, hc25_8], N9, rfl⟩
    · obtain ⟨_, T11, Lc11, X11, hQ11, st11⟩ := own_callS (W := 0) (y := mN1) X6 hx hZ hown (hw _ (own_w 82 rfl)) (hw _ (own_w 83 rfl)) (hw _ (own_w 84 rfl)) (hw _ (own_w 85 rfl)) (by decide) (rmIsoC l Z av0 hw [] c1 h0 n0 Z0 ) (by decide) (by decide) (g := (mkF m 29 #[rv a0, iv 1, iv 1, iv c1] [(.int c1)])) rfl (by rw [hml]; rfl) (argsL := [(.int c1)]) (rest := []) (lenOf pd__C_Z rfl) rfl (hb hby d11_29) rfl e6 (by decide : 0 + 0 ≤ _) (by decide : 0 + 0 ≤ _)
      obtain ⟨rfl, N11q, hh11⟩ := hQ11
      have N11 := Fr.app N6 N11q
      have e11 : T11.heap = h0 := hh11
      have S12 : ∀ t, oS p e below T11 (mkF m 32 #[rv a0, iv 1, iv 1, iv c1] [(.int (own_iso c1))]) t → oS p e below s₁ (mkF m 0 #[rv a0, .unset, .unset, .unset] []) t := fun t k => S7 t (by
        show oS p e below T6 (mkF m 25 #[rv a0, iv 1, iv 1, iv c1] [(.int 9), (.int c1)]) _
        refine XS.icmpNo X6.here hx rfl (hb hby d11_25) rfl (XT.ii_eq_f hc25_8) ?_
        refine XS.iloadN X6.here hx rfl (hb hby d11_28) rfl ?_
        refine st11 _ ?_
        exact k)
      by_cases hc32_13 : (own_iso c1) = (0 : Int32)
      · obtain ⟨_, T14, Lc14, X14, hQ14, st14⟩ := own_virtual (W := 1) (y := mN6) (z := mN6) X11 hx hZ hown (hw _ (own_w 51 rfl)) (hw _ (own_w 52 rfl)) (notFace_of_selects (args := #[]) (mvT hZ (hw _ (own_w 54 rfl)))) (hw _ (own_w 54 rfl)) (hw _ (own_w 53 rfl)) (hw _ (own_w 55 rfl)) (hw _ (own_w 2 rfl)) (by decide) (rmLenJ_2 l Z av0 hw [] a0 wC fm c0 c1 h0 n0 Z0 hE hSt hS hw0) (by decide) (by decide) hE (g := (mkF m 6 #[rv a0, iv 1, iv 2, iv c1] [(.ref a0), (.int 2)])) rfl (by rw [hml]; rfl) (argsL := []) (rest := [(.int 2)]) (lenOf pd__I rfl) rfl (hb hby d11_6) rfl e11 (by decide : 0 + 0 ≤ _) (by decide : 0 + 0 ≤ _)
        obtain ⟨rfl, N14q, hh14⟩ := hQ14
        have N14 := Fr.app N11 N14q
        have e14 : T14.heap = h0 := hh14
        have S15 : ∀ t, oS p e below T14 (mkF m 48 #[rv a0, iv 1, iv 2, iv c1] [(.int 1)]) t → oS p e below s₁ (mkF m 0 #[rv a0, .unset, .unset, .unset] []) t := fun t k => S12 t (by
          show oS p e below T11 (mkF m 32 #[rv a0, iv 1, iv 1, iv c1] [(.int (own_iso c1))]) _
          refine XS.ifNo X11.here hx rfl (hb hby d11_32) rfl (XT.i0_ne_f hc32_13) ?_
          refine XT.iconstV X11.here hx rfl (1 : Int32) (hb hby d11_35) (by decide) ?_
          refine XS.goto X11.here hx rfl (pc0 := 36) (pc' := 40) rfl (hb hby d11_36) (by decide) (by decide) ?_
          refine XS.istoreN X11.here hx rfl (hb hby d11_40) rfl (l' := #[rv a0, iv 1, iv 1, iv c1]) rfl ?_
          refine XT.iincV X11.here hx rfl (1 : Int32) (hb hby d11_41) (by decide) rfl (l' := #[rv a0, iv 1, iv 2, iv c1]) rfl ?_
          refine XS.goto X11.here hx rfl (pc0 := 44) (pc' := 4) rfl (hb hby d11_44) (by decide) (by decide) ?_
          refine XS.iloadN X11.here hx rfl (hb hby d11_4) rfl ?_
          refine XS.aloadN X11.here hx rfl (hb hby d11_5) rfl rfl ?_
          show oS p e below T11 (mkF m 6 #[rv a0, iv 1, iv 2, iv c1] [(.ref a0), (.int 2)]) _
          refine st14 _ ?_
          refine XS.icmpYes X14.here hx rfl (pc0 := 9) (pc' := 47) rfl (hb hby d11_9) rfl (XT.ii_ge_t (by decide)) (by decide) (by decide) ?_
          refine XS.iloadN X14.here hx rfl (hb hby d11_47) rfl ?_
          exact k)
        obtain ⟨fs, hr, hrun, hended, hW, hsame⟩ := X14.leave (v := some (.int 1)) (fun h => by rw [Bd.returns] at h; cases h)
        refine ⟨_, _, pre0 _ (S15 _ ?_), hrun, hended, _, _, rfl, ?_, ⟨_, rfl⟩, hW, hsame.mono (by decide) (by decide)⟩
        · exact retN X14 hx (t := .boolean) Bd.returns (by simp) (hb hby d11_48) hr
        · show QrmFv_2 Z a0 wC fm c0 c1 h0 n0 _ T14.heap _
          rw [e14]
          exact ⟨by simp [own_fv, hc25_4, hc25_8, hc32_13], N14, rfl⟩
      · obtain ⟨_, T16, Lc16, X16, hQ16, st16⟩ := own_virtual (W := 1) (y := mN6) (z := mN6) X11 hx hZ hown (hw _ (own_w 51 rfl)) (hw _ (own_w 52 rfl)) (notFace_of_selects (args := #[]) (mvT hZ (hw _ (own_w 54 rfl)))) (hw _ (own_w 54 rfl)) (hw _ (own_w 53 rfl)) (hw _ (own_w 55 rfl)) (hw _ (own_w 2 rfl)) (by decide) (rmLenJ_2 l Z av0 hw [] a0 wC fm c0 c1 h0 n0 Z0 hE hSt hS hw0) (by decide) (by decide) hE (g := (mkF m 6 #[rv a0, iv 0, iv 2, iv c1] [(.ref a0), (.int 2)])) rfl (by rw [hml]; rfl) (argsL := []) (rest := [(.int 2)]) (lenOf pd__I rfl) rfl (hb hby d11_6) rfl e11 (by decide : 0 + 0 ≤ _) (by decide : 0 + 0 ≤ _)
        obtain ⟨rfl, N16q, hh16⟩ := hQ16
        have N16 := Fr.app N11 N16q
        have e16 : T16.heap = h0 := hh16
        have S17 : ∀ t, oS p e below T16 (mkF m 48 #[rv a0, iv 0, iv 2, iv c1] [(.int 0)]) t → oS p e below s₁ (mkF m 0 #[rv a0, .unset, .unset, .unset] []) t := fun t k => S12 t (by
          show oS p e below T11 (mkF m 32 #[rv a0, iv 1, iv 1, iv c1] [(.int (own_iso c1))]) _
          refine XS.ifYes X11.here hx rfl (pc0 := 32) (pc' := 39) rfl (hb hby d11_32) rfl (XT.i0_ne_t hc32_13) (by decide) (by decide) ?_
          refine XT.iconstV X11.here hx rfl (0 : Int32) (hb hby d11_39) (by decide) ?_
          refine XS.istoreN X11.here hx rfl (hb hby d11_40) rfl (l' := #[rv a0, iv 0, iv 1, iv c1]) rfl ?_
          refine XT.iincV X11.here hx rfl (1 : Int32) (hb hby d11_41) (by decide) rfl (l' := #[rv a0, iv 0, iv 2, iv c1]) rfl ?_
          refine XS.goto X11.here hx rfl (pc0 := 44) (pc' := 4) rfl (hb hby d11_44) (by decide) (by decide) ?_
          refine XS.iloadN X11.here hx rfl (hb hby d11_4) rfl ?_
          refine XS.aloadN X11.here hx rfl (hb hby d11_5) rfl rfl ?_
          refine st16 _ ?_
          show oS p e below T16 (mkF m 9 #[rv a0, iv 0, iv 2, iv c1] [(.int 2), (.int 2)]) _
          refine XS.icmpYes X16.here hx rfl (pc0 := 9) (pc' := 47) rfl (hb hby d11_9) rfl (XT.ii_ge_t (by decide)) (by decide) (by decide) ?_
          refine XS.iloadN X16.here hx rfl (hb hby d11_47) rfl ?_
          exact k)
        obtain ⟨fs, hr, hrun, hended, hW, hsame⟩ := X16.leave (v := some (.int 0)) (fun h => by rw [Bd.returns] at h; cases h)
        refine ⟨_, _, pre0 _ (S17 _ ?_), hrun, hended, _, _, rfl, ?_, ⟨_, rfl⟩, hW, hsame.mono (by decide) (by decide)⟩
        · exact retN X16 hx (t := .boolean) Bd.returns (by simp) (hb hby d11_48) hr
        · show QrmFv_2 Z a0 wC fm c0 c1 h0 n0 _ T16.heap _
          rw [e16]
          exact ⟨by simp [own_fv, hc25_4, hc25_8, hc32_13], N16, rfl⟩
  · obtain ⟨_, T18, Lc18, X18, hQ18, st18⟩ := own_callS (W := 0) (y := mN1) X2 hx hZ hown (hw _ (own_w 82 rfl)) (hw _ (own_w 83 rfl)) (hw _ (own_w 84 rfl)) (hw _ (own_w 85 rfl)) (by decide) (rmIsoC l Z av0 hw [] c0 h0 n0 Z0 ) (by decide) (by decide) (g := (mkF m 29 #[rv a0, iv 1, iv 0, iv c0] [(.int c0)])) rfl (by rw [hml]; rfl) (argsL := [(.int c0)]) (rest := []) (lenOf pd__C_Z rfl) rfl (hb hby d11_29) rfl e2 (by decide : 0 + 0 ≤ _) (by decide : 0 + 0 ≤ _)
    obtain ⟨rfl, N18q, hh18⟩ := hQ18
    have N18 := Fr.app N2 N18q
    have e18 : T18.heap = h0 := hh18
    have S19 : ∀ t, oS p e below T18 (mkF m 32 #[rv a0, iv 1, iv 0, iv c0] [(.int (own_iso c0))]) t → oS p e below s₁ (mkF m 0 #[rv a0, .unset, .unset, .unset] []) t := fun t k => S3 t (by
      show oS p e below T2 (mkF m 25 #[rv a0, iv 1, iv 0, iv c0] [(.int 9), (.int c0)]) _
      refine XS.icmpNo X2.here hx rfl (hb hby d11_25) rfl (XT.ii_eq_f hc25_4) ?_
      refine XS.iloadN X2.here hx rfl (hb hby d11_28) rfl ?_
      refine st18 _ ?_
      exact k)
    by_cases hc32_20 : (own_iso c0) = (0 : Int32)
    · obtain ⟨_, T21, Lc21, X21, hQ21, st21⟩ := own_virtual (W := 1) (y := mN6) (z := mN6) X18 hx hZ hown (hw _ (own_w 51 rfl)) (hw _ (own_w 52 rfl)) (notFace_of_selects (args := #[]) (mvT hZ (hw _ (own_w 54 rfl)))) (hw _ (own_w 54 rfl)) (hw _ (own_w 53 rfl)) (hw _ (own_w 55 rfl)) (hw _ (own_w 2 rfl)) (by decide) (rmLenJ_2 l Z av0 hw [] a0 wC fm c0 c1 h0 n0 Z0 hE hSt hS hw0) (by decide) (by decide) hE (g := (mkF m 6 #[rv a0, iv 1, iv 1, iv c0] [(.ref a0), (.int 1)])) rfl (by rw [hml]; rfl) (argsL := []) (rest := [(.int 1)]) (lenOf pd__I rfl) rfl (hb hby d11_6) rfl e18 (by decide : 0 + 0 ≤ _) (by decide : 0 + 0 ≤ _)
      obtain ⟨rfl, N21q, hh21⟩ := hQ21
      have N21 := Fr.app N18 N21q
      have e21 : T21.heap = h0 := hh21
      obtain ⟨_, T22, Lc22, X22, hQ22, st22⟩ := own_virtual (W := 0) (y := mN15) (z := mN15) X21 hx hZ hown (hw _ (own_w 61 rfl)) (hw _ (own_w 62 rfl)) (notFace_of_selects (args := #[]) (mvT hZ (hw _ (own_w 64 rfl)))) (hw _ (own_w 64 rfl)) (hw _ (own_w 63 rfl)) (hw _ (own_w 65 rfl)) (hw _ (own_w 2 rfl)) (by decide) (rmChJ_2_1 l Z av0 hw [] a0 wC fm c0 c1 h0 n0 Z0 hE hSt hS hw0 hfm hF sA sH sL hg1) (by decide) (by decide) hE (g := (mkF m 18 #[rv a0, iv 1, iv 1, iv c0] [(.int 1), (.ref a0)])) rfl (by rw [hml]; rfl) (argsL := [(.int 1)]) (rest := []) (lenOf pd__I_C rfl) rfl (hb hby d11_18) rfl e21 (by decide : 0 + 0 ≤ _) (by decide : 0 + 0 ≤ _)
      obtain ⟨rfl, N22q, hh22⟩ := hQ22
      have N22 := Fr.app N21 N22q
      have e22 : T22.heap = h0 := hh22
      have S23 : ∀ t, oS p e below T22 (mkF m 25 #[rv a0, iv 1, iv 1, iv c1] [(.int 9), (.int c1)]) t → oS p e below s₁ (mkF m 0 #[rv a0, .unset, .unset, .unset] []) t := fun t k => S19 t (by
        show oS p e below T18 (mkF m 32 #[rv a0, iv 1, iv 0, iv c0] [(.int (own_iso c0))]) _
        refine XS.ifNo X18.here hx rfl (hb hby d11_32) rfl (XT.i0_ne_f hc32_20) ?_
        refine XT.iconstV X18.here hx rfl (1 : Int32) (hb hby d11_35) (by decide) ?_
        refine XS.goto X18.here hx rfl (pc0 := 36) (pc' := 40) rfl (hb hby d11_36) (by decide) (by decide) ?_
        refine XS.istoreN X18.here hx rfl (hb hby d11_40) rfl (l' := #[rv a0, iv 1, iv 0, iv c0]) rfl ?_
        refine XT.iincV X18.here hx rfl (1 : Int32) (hb hby d11_41) (by decide) rfl (l' := #[rv a0, iv 1, iv 1, iv c0]) rfl ?_
        refine XS.goto X18.here hx rfl (pc0 := 44) (pc' := 4) rfl (hb hby d11_44) (by decide) (by decide) ?_
        refine XS.iloadN X18.here hx rfl (hb hby d11_4) rfl ?_
        refine XS.aloadN X18.here hx rfl (hb hby d11_5) rfl rfl ?_
        refine st21 _ ?_
        refine XS.icmpNo X21.here hx rfl (hb hby d11_9) rfl (XT.ii_ge_f (by decide)) ?_
        refine XS.iloadN X21.here hx rfl (hb hby d11_12) rfl ?_
        show oS p e below T21 (mkF m 13 #[rv a0, iv 1, iv 1, iv c0] [(.int 1)]) _
        refine XS.ifNo X21.here hx rfl (hb hby d11_13) rfl (XT.i0_eq_f (by decide)) ?_
        refine XS.aloadN X21.here hx rfl (hb hby d11_16) rfl rfl ?_
        refine XS.iloadN X21.here hx rfl (hb hby d11_17) rfl ?_
        refine st22 _ ?_
        refine XS.istoreN X22.here hx rfl (hb hby d11_21) rfl (l' := #[rv a0, iv 1, iv 1, iv c1]) rfl ?_
        refine XS.iloadN X22.here hx rfl (hb hby d11_22) rfl ?_
        refine XT.bipushV X22.here hx rfl (9 : Int32) (hb hby d11_23) (by decide) ?_
        exact k)
      by_cases hc25_24 : c1 = (9 : Int32)
      · obtain ⟨_, T25, Lc25, X25, hQ25, st25⟩ := own_virtual (W := 1) (y := mN6) (z := mN6) X22 hx hZ hown (hw _ (own_w 51 rfl)) (hw _ (own_w 52 rfl)) (notFace_of_selects (args := #[]) (mvT hZ (hw _ (own_w 54 rfl)))) (hw _ (own_w 54 rfl)) (hw _ (own_w 53 rfl)) (hw _ (own_w 55 rfl)) (hw _ (own_w 2 rfl)) (by decide) (rmLenJ_2 l Z av0 hw [] a0 wC fm c0 c1 h0 n0 Z0 hE hSt hS hw0) (by decide) (by decide) hE (g := (mkF m 6 #[rv a0, iv 1, iv 2, iv c1] [(.ref a0), (.int 2)])) rfl (by rw [hml]; rfl) (argsL := []) (rest := [(.int 2)]) (lenOf pd__I rfl) rfl (hb hby d11_6) rfl e22 (by decide : 0 + 0 ≤ _) (by decide : 0 + 0 ≤ _)
        obtain ⟨rfl, N25q, hh25⟩ := hQ25
        have N25 := Fr.app N22 N25q
        have e25 : T25.heap = h0 := hh25
        have S26 : ∀ t, oS p e below T25 (mkF m 48 #[rv a0, iv 1, iv 2, iv c1] [(.int 1)]) t → oS p e below s₁ (mkF m 0 #[rv a0, .unset, .unset, .unset] []) t := fun t k => S23 t (by
          show oS p e below T22 (mkF m 25 #[rv a0, iv 1, iv 1, iv c1] [(.int 9), (.int c1)]) _
          refine XS.icmpYes X22.here hx rfl (pc0 := 25) (pc' := 35) rfl (hb hby d11_25) rfl (XT.ii_eq_t hc25_24) (by decide) (by decide) ?_
          refine XT.iconstV X22.here hx rfl (1 : Int32) (hb hby d11_35) (by decide) ?_
          refine XS.goto X22.here hx rfl (pc0 := 36) (pc' := 40) rfl (hb hby d11_36) (by decide) (by decide) ?_
          refine XS.istoreN X22.here hx rfl (hb hby d11_40) rfl (l' := #[rv a0, iv 1, iv 1, iv c1]) rfl ?_
          refine XT.iincV X22.here hx rfl (1 : Int32) (hb hby d11_41) (by decide) rfl (l' := #[rv a0, iv 1, iv 2, iv c1]) rfl ?_
          refine XS.goto X22.here hx rfl (pc0 := 44) (pc' := 4) rfl (hb hby d11_44) (by decide) (by decide) ?_
          refine XS.iloadN X22.here hx rfl (hb hby d11_4) rfl ?_
          refine XS.aloadN X22.here hx rfl (hb hby d11_5) rfl rfl ?_
          show oS p e below T22 (mkF m 6 #[rv a0, iv 1, iv 2, iv c1] [(.ref a0), (.int 2)]) _
          refine st25 _ ?_
          refine XS.icmpYes X25.here hx rfl (pc0 := 9) (pc' := 47) rfl (hb hby d11_9) rfl (XT.ii_ge_t (by decide)) (by decide) (by decide) ?_
          refine XS.iloadN X25.here hx rfl (hb hby d11_47) rfl ?_
          exact k)
        obtain ⟨fs, hr, hrun, hended, hW, hsame⟩ := X25.leave (v := some (.int 1)) (fun h => by rw [Bd.returns] at h; cases h)
        refine ⟨_, _, pre0 _ (S26 _ ?_), hrun, hended, _, _, rfl, ?_, ⟨_, rfl⟩, hW, hsame.mono (by decide) (by decide)⟩
        · exact retN X25 hx (t := .boolean) Bd.returns (by simp) (hb hby d11_48) hr
        · show QrmFv_2 Z a0 wC fm c0 c1 h0 n0 _ T25.heap _
          rw [e25]
          exact ⟨by simp [own_fv, hc25_4, hc32_20, hc25_24], N25, rfl⟩
      · obtain ⟨_, T27, Lc27, X27, hQ27, st27⟩ := own_callS (W := 0) (y := mN1) X22 hx hZ hown (hw _ (own_w 82 rfl)) (hw _ (own_w 83 rfl)) (hw _ (own_w 84 rfl)) (hw _ (own_w 85 rfl)) (by decide) (rmIsoC l Z av0 hw [] c1 h0 n0 Z0 ) (by decide) (by decide) (g := (mkF m 29 #[rv a0, iv 1, iv 1, iv c1] [(.int c1)])) rfl (by rw [hml]; rfl) (argsL := [(.int c1)]) (rest := []) (lenOf pd__C_Z rfl) rfl (hb hby d11_29) rfl e22 (by decide : 0 + 0 ≤ _) (by decide : 0 + 0 ≤ _)
        obtain ⟨rfl, N27q, hh27⟩ := hQ27
        have N27 := Fr.app N22 N27q
        have e27 : T27.heap = h0 := hh27
        have S28 : ∀ t, oS p e below T27 (mkF m 32 #[rv a0, iv 1, iv 1, iv c1] [(.int (own_iso c1))]) t → oS p e below s₁ (mkF m 0 #[rv a0, .unset, .unset, .unset] []) t := fun t k => S23 t (by
          show oS p e below T22 (mkF m 25 #[rv a0, iv 1, iv 1, iv c1] [(.int 9), (.int c1)]) _
          refine XS.icmpNo X22.here hx rfl (hb hby d11_25) rfl (XT.ii_eq_f hc25_24) ?_
          refine XS.iloadN X22.here hx rfl (hb hby d11_28) rfl ?_
          refine st27 _ ?_
          exact k)
        by_cases hc32_29 : (own_iso c1) = (0 : Int32)
        · obtain ⟨_, T30, Lc30, X30, hQ30, st30⟩ := own_virtual (W := 1) (y := mN6) (z := mN6) X27 hx hZ hown (hw _ (own_w 51 rfl)) (hw _ (own_w 52 rfl)) (notFace_of_selects (args := #[]) (mvT hZ (hw _ (own_w 54 rfl)))) (hw _ (own_w 54 rfl)) (hw _ (own_w 53 rfl)) (hw _ (own_w 55 rfl)) (hw _ (own_w 2 rfl)) (by decide) (rmLenJ_2 l Z av0 hw [] a0 wC fm c0 c1 h0 n0 Z0 hE hSt hS hw0) (by decide) (by decide) hE (g := (mkF m 6 #[rv a0, iv 1, iv 2, iv c1] [(.ref a0), (.int 2)])) rfl (by rw [hml]; rfl) (argsL := []) (rest := [(.int 2)]) (lenOf pd__I rfl) rfl (hb hby d11_6) rfl e27 (by decide : 0 + 0 ≤ _) (by decide : 0 + 0 ≤ _)
          obtain ⟨rfl, N30q, hh30⟩ := hQ30
          have N30 := Fr.app N27 N30q
          have e30 : T30.heap = h0 := hh30
          have S31 : ∀ t, oS p e below T30 (mkF m 48 #[rv a0, iv 1, iv 2, iv c1] [(.int 1)]) t → oS p e below s₁ (mkF m 0 #[rv a0, .unset, .unset, .unset] []) t := fun t k => S28 t (by
            show oS p e below T27 (mkF m 32 #[rv a0, iv 1, iv 1, iv c1] [(.int (own_iso c1))]) _
            refine XS.ifNo X27.here hx rfl (hb hby d11_32) rfl (XT.i0_ne_f hc32_29) ?_
            refine XT.iconstV X27.here hx rfl (1 : Int32) (hb hby d11_35) (by decide) ?_
            refine XS.goto X27.here hx rfl (pc0 := 36) (pc' := 40) rfl (hb hby d11_36) (by decide) (by decide) ?_
            refine XS.istoreN X27.here hx rfl (hb hby d11_40) rfl (l' := #[rv a0, iv 1, iv 1, iv c1]) rfl ?_
            refine XT.iincV X27.here hx rfl (1 : Int32) (hb hby d11_41) (by decide) rfl (l' := #[rv a0, iv 1, iv 2, iv c1]) rfl ?_
            show oS p e below T27 (mkF m 44 #[rv a0, iv 1, iv 2, iv c1] []) _
            refine XS.goto X27.here hx rfl (pc0 := 44) (pc' := 4) rfl (hb hby d11_44) (by decide) (by decide) ?_
            refine XS.iloadN X27.here hx rfl (hb hby d11_4) rfl ?_
            refine XS.aloadN X27.here hx rfl (hb hby d11_5) rfl rfl ?_
            refine st30 _ ?_
            refine XS.icmpYes X30.here hx rfl (pc0 := 9) (pc' := 47) rfl (hb hby d11_9) rfl (XT.ii_ge_t (by decide)) (by decide) (by decide) ?_
            refine XS.iloadN X30.here hx rfl (hb hby d11_47) rfl ?_
            exact k)
          obtain ⟨fs, hr, hrun, hended, hW, hsame⟩ := X30.leave (v := some (.int 1)) (fun h => by rw [Bd.returns] at h; cases h)
          refine ⟨_, _, pre0 _ (S31 _ ?_), hrun, hended, _, _, rfl, ?_, ⟨_, rfl⟩, hW, hsame.mono (by decide) (by decide)⟩
          · exact retN X30 hx (t := .boolean) Bd.returns (by simp) (hb hby d11_48) hr
          · show QrmFv_2 Z a0 wC fm c0 c1 h0 n0 _ T30.heap _
            rw [e30]
            exact ⟨by simp [own_fv, hc25_4, hc32_20, hc25_24, hc32_29], N30, rfl⟩
        · obtain ⟨_, T32, Lc32, X32, hQ32, st32⟩ := own_virtual (W := 1) (y := mN6) (z := mN6) X27 hx hZ hown (hw _ (own_w 51 rfl)) (hw _ (own_w 52 rfl)) (notFace_of_selects (args := #[]) (mvT hZ (hw _ (own_w 54 rfl)))) (hw _ (own_w 54 rfl)) (hw _ (own_w 53 rfl)) (hw _ (own_w 55 rfl)) (hw _ (own_w 2 rfl)) (by decide) (rmLenJ_2 l Z av0 hw [] a0 wC fm c0 c1 h0 n0 Z0 hE hSt hS hw0) (by decide) (by decide) hE (g := (mkF m 6 #[rv a0, iv 0, iv 2, iv c1] [(.ref a0), (.int 2)])) rfl (by rw [hml]; rfl) (argsL := []) (rest := [(.int 2)]) (lenOf pd__I rfl) rfl (hb hby d11_6) rfl e27 (by decide : 0 + 0 ≤ _) (by decide : 0 + 0 ≤ _)
          obtain ⟨rfl, N32q, hh32⟩ := hQ32
          have N32 := Fr.app N27 N32q
          have e32 : T32.heap = h0 := hh32
          have S33 : ∀ t, oS p e below T32 (mkF m 48 #[rv a0, iv 0, iv 2, iv c1] [(.int 0)]) t → oS p e below s₁ (mkF m 0 #[rv a0, .unset, .unset, .unset] []) t := fun t k => S28 t (by
            show oS p e below T27 (mkF m 32 #[rv a0, iv 1, iv 1, iv c1] [(.int (own_iso c1))]) _
            refine XS.ifYes X27.here hx rfl (pc0 := 32) (pc' := 39) rfl (hb hby d11_32) rfl (XT.i0_ne_t hc32_29) (by decide) (by decide) ?_
            refine XT.iconstV X27.here hx rfl (0 : Int32) (hb hby d11_39) (by decide) ?_
            refine XS.istoreN X27.here hx rfl (hb hby d11_40) rfl (l' := #[rv a0, iv 0, iv 1, iv c1]) rfl ?_
            refine XT.iincV X27.here hx rfl (1 : Int32) (hb hby d11_41) (by decide) rfl (l' := #[rv a0, iv 0, iv 2, iv c1]) rfl ?_
            refine XS.goto X27.here hx rfl (pc0 := 44) (pc' := 4) rfl (hb hby d11_44) (by decide) (by decide) ?_
            show oS p e below T27 (mkF m 4 #[rv a0, iv 0, iv 2, iv c1] []) _
            refine XS.iloadN X27.here hx rfl (hb hby d11_4) rfl ?_
            refine XS.aloadN X27.here hx rfl (hb hby d11_5) rfl rfl ?_
            refine st32 _ ?_
            refine XS.icmpYes X32.here hx rfl (pc0 := 9) (pc' := 47) rfl (hb hby d11_9) rfl (XT.ii_ge_t (by decide)) (by decide) (by decide) ?_
            refine XS.iloadN X32.here hx rfl (hb hby d11_47) rfl ?_
            exact k)
          obtain ⟨fs, hr, hrun, hended, hW, hsame⟩ := X32.leave (v := some (.int 0)) (fun h => by rw [Bd.returns] at h; cases h)
          refine ⟨_, _, pre0 _ (S33 _ ?_), hrun, hended, _, _, rfl, ?_, ⟨_, rfl⟩, hW, hsame.mono (by decide) (by decide)⟩
          · exact retN X32 hx (t := .boolean) Bd.returns (by simp) (hb hby d11_48) hr
          · show QrmFv_2 Z a0 wC fm c0 c1 h0 n0 _ T32.heap _
            rw [e32]
            exact ⟨by simp [own_fv, hc25_4, hc32_20, hc25_24, hc32_29], N32, rfl⟩
    · obtain ⟨_, T34, Lc34, X34, hQ34, st34⟩ := own_virtual (W := 1) (y := mN6) (z := mN6) X18 hx hZ hown (hw _ (own_w 51 rfl)) (hw _ (own_w 52 rfl)) (notFace_of_selects (args := #[]) (mvT hZ (hw _ (own_w 54 rfl)))) (hw _ (own_w 54 rfl)) (hw _ (own_w 53 rfl)) (hw _ (own_w 55 rfl)) (hw _ (own_w 2 rfl)) (by decide) (rmLenJ_2 l Z av0 hw [] a0 wC fm c0 c1 h0 n0 Z0 hE hSt hS hw0) (by decide) (by decide) hE (g := (mkF m 6 #[rv a0, iv 0, iv 1, iv c0] [(.ref a0), (.int 1)])) rfl (by rw [hml]; rfl) (argsL := []) (rest := [(.int 1)]) (lenOf pd__I rfl) rfl (hb hby d11_6) rfl e18 (by decide : 0 + 0 ≤ _) (by decide : 0 + 0 ≤ _)
      obtain ⟨rfl, N34q, hh34⟩ := hQ34
      have N34 := Fr.app N18 N34q
      have e34 : T34.heap = h0 := hh34
      have S35 : ∀ t, oS p e below T34 (mkF m 48 #[rv a0, iv 0, iv 1, iv c0] [(.int 0)]) t → oS p e below s₁ (mkF m 0 #[rv a0, .unset, .unset, .unset] []) t := fun t k => S19 t (by
        show oS p e below T18 (mkF m 32 #[rv a0, iv 1, iv 0, iv c0] [(.int (own_iso c0))]) _
        refine XS.ifYes X18.here hx rfl (pc0 := 32) (pc' := 39) rfl (hb hby d11_32) rfl (XT.i0_ne_t hc32_20) (by decide) (by decide) ?_
        refine XT.iconstV X18.here hx rfl (0 : Int32) (hb hby d11_39) (by decide) ?_
        refine XS.istoreN X18.here hx rfl (hb hby d11_40) rfl (l' := #[rv a0, iv 0, iv 0, iv c0]) rfl ?_
        refine XT.iincV X18.here hx rfl (1 : Int32) (hb hby d11_41) (by decide) rfl (l' := #[rv a0, iv 0, iv 1, iv c0]) rfl ?_
        refine XS.goto X18.here hx rfl (pc0 := 44) (pc' := 4) rfl (hb hby d11_44) (by decide) (by decide) ?_
        refine XS.iloadN X18.here hx rfl (hb hby d11_4) rfl ?_
        refine XS.aloadN X18.here hx rfl (hb hby d11_5) rfl rfl ?_
        refine st34 _ ?_
        refine XS.icmpNo X34.here hx rfl (hb hby d11_9) rfl (XT.ii_ge_f (by decide)) ?_
        refine XS.iloadN X34.here hx rfl (hb hby d11_12) rfl ?_
        refine XS.ifYes X34.here hx rfl (pc0 := 13) (pc' := 47) rfl (hb hby d11_13) rfl (XT.i0_eq_t (by decide)) (by decide) (by decide) ?_
        show oS p e below T34 (mkF m 47 #[rv a0, iv 0, iv 1, iv c0] []) _
        refine XS.iloadN X34.here hx rfl (hb hby d11_47) rfl ?_
        exact k)
      obtain ⟨fs, hr, hrun, hended, hW, hsame⟩ := X34.leave (v := some (.int 0)) (fun h => by rw [Bd.returns] at h; cases h)
      refine ⟨_, _, pre0 _ (S35 _ ?_), hrun, hended, _, _, rfl, ?_, ⟨_, rfl⟩, hW, hsame.mono (by decide) (by decide)⟩
      · exact retN X34 hx (t := .boolean) Bd.returns (by simp) (hb hby d11_48) hr
      · show QrmFv_2 Z a0 wC fm c0 c1 h0 n0 _ T34.heap _
        rw [e34]
        exact ⟨by simp [own_fv, hc25_4, hc32_20], N34, rfl⟩
def own_St3 (Z : State) (h : Heap) (a : Addr) (c0 : Int32) (c1 : Int32) (c2 : Int32) : Prop := (∃ (b : Addr) (k : ClassId), Fld Z h a "java/lang/String" "value" "[B" (.ref b) ∧ Fld Z h a "java/lang/String" "coder" "B" (.int (0 : Int32)) ∧ Arv Z h b k .byte (3 : Int32) [(.int (own_b c0)), (.int (own_b c1)), (.int (own_b c2))] (.int (0 : Int32)) ∧ ¬ (255 : Int32) < c0 ∧ ¬ (255 : Int32) < c1 ∧ ¬ (255 : Int32) < c2) ∨ (∃ (b : Addr) (k : ClassId), Fld Z h a "java/lang/String" "value" "[B" (.ref b) ∧ Fld Z h a "java/lang/String" "coder" "B" (.int (1 : Int32)) ∧ Arv Z h b k .byte (6 : Int32) [(.int (own_lo c0)), (.int (own_hi c0)), (.int (own_lo c1)), (.int (own_hi c1)), (.int (own_lo c2)), (.int (own_hi c2))] (.int (0 : Int32)))
theorem own_St3_ext {Z : State} {h h' : Heap} {a : Addr} {c0 : Int32} {c1 : Int32} {c2 : Int32} (S : own_St3 Z h a c0 c1 c2) (E : Ext h h') : own_St3 Z h' a c0 c1 c2 := by
  rcases S with ⟨b, k, f, g, A, r0, r1, r2⟩ | ⟨b, k, f, g, A⟩
  · exact Or.inl ⟨b, k, f.ext E, g.ext E, A.ext E, r0, r1, r2⟩
  · exact Or.inr ⟨b, k, f.ext E, g.ext E, A.ext E⟩
theorem own_St3_wr {Z : State} {h h' : Heap} {a : Addr} {c0 : Int32} {c1 : Int32} {c2 : Int32} (S : own_St3 Z h a c0 c1 c2) {o : Addr} {sl : Nat} {v : Value} (W : Wr h h' o sl v) (hn : a ≠ o) (hb : ∀ {b k z vs d}, Arv Z h b k .byte z vs d → b ≠ o) : own_St3 Z h' a c0 c1 c2 := by
  rcases S with ⟨b, k, f, g, A, r0, r1, r2⟩ | ⟨b, k, f, g, A⟩
  · exact Or.inl ⟨b, k, f.other W (Or.inl hn), g.other W (Or.inl hn), A.other W (hb A), r0, r1, r2⟩
  · exact Or.inr ⟨b, k, f.other W (Or.inl hn), g.other W (Or.inl hn), A.other W (hb A)⟩
theorem own_St3_k0 {Z : State} {h h' : Heap} {a : Addr} {c0 : Int32} {c1 : Int32} {c2 : Int32} (S : own_St3 Z h a c0 c1 c2) (K : Keep h h' []) : own_St3 Z h' a c0 c1 c2 := by
  rcases S with ⟨b, k, f, g, A, r0, r1, r2⟩ | ⟨b, k, f, g, A⟩
  · exact Or.inl ⟨b, k, f.keep K nin0, g.keep K nin0, A.keep K nin0, r0, r1, r2⟩
  · exact Or.inr ⟨b, k, f.keep K nin0, g.keep K nin0, A.keep K nin0⟩
theorem own_St3_k1 {Z : State} {h h' : Heap} {a : Addr} {c0 : Int32} {c1 : Int32} {c2 : Int32} (S : own_St3 Z h a c0 c1 c2) {o : Addr} (K : Keep h h' [o]) (hn : a ≠ o) (hb : ∀ {b k z vs d}, Arv Z h b k .byte z vs d → b ≠ o) : own_St3 Z h' a c0 c1 c2 := by
  rcases S with ⟨b, k, f, g, A, r0, r1, r2⟩ | ⟨b, k, f, g, A⟩
  · exact Or.inl ⟨b, k, f.keep K (ninS hn nin0), g.keep K (ninS hn nin0), A.keep K (ninS (hb A) nin0), r0, r1, r2⟩
  · exact Or.inr ⟨b, k, f.keep K (ninS hn nin0), g.keep K (ninS hn nin0), A.keep K (ninS (hb A) nin0)⟩
def QrmLen_3_0 (Z : State) (a0 : Addr) (ab : Addr) (kb : ClassId) (wC : Int32) (c0 : Int32) (c1 : Int32) (c2 : Int32) (h0 : Heap) (n0 : Nat) (v : Option Value) (h : Heap) (L : List Loc) : Prop := v = some (.int (3 : Int32)) ∧ Fr n0 L ∧ h = h0
set_option maxRecDepth 65536 in
set_option maxHeartbeats 40000000 in
theorem rmLen_3_0 (l : Launch) (Z : State) (av0 : Array Value) (hw : ∀ d ∈ tables_1, d.before av0 Z = true) (ws : List Jvm.Cond) (a0 : Addr) (ab : Addr) (kb : ClassId) (wC : Int32) (c0 : Int32) (c1 : Int32) (c2 : Int32) (h0 : Heap) (n0 : Nat) (Z0 : n0 ≤ h0.size) (hE : Exa Z h0 a0 "java/lang/String") (hV : Fld Z h0 a0 "java/lang/String" "value" "[B" (.ref ab)) (hC : Fld Z h0 a0 "java/lang/String" "coder" "B" (.int (0 : Int32))) (hB : Arv Z h0 ab kb .byte (3 : Int32) [(.int (own_b c0)), (.int (own_b c1)), (.int (own_b c2))] (.int (0 : Int32))) (hS : Sta Z h0 "java/lang/String" "COMPACT_STRINGS" "Z" (.int wC)) (hw0 : ¬ wC = (0 : Int32)) :
    own_Met l mN6 jdk_42_method_54_code 1 (some .int) ws ({ frames := 1, cells := 0, slots := 0, locals := 13 } : Room) #[(.ref a0)] Z h0 (QrmLen_3_0 Z a0 ab kb wC c0 c1 c2 h0 n0) := by
  refine MetFree.of_bodySF (plainFor_of_name pn_String) hisR ?_
  intro p e s m args below meth c s₁ Bd hml0 hP hK
  obtain ⟨rfl, hZ, hh⟩ := hP
  have hml : c.maxLocals = 1 := hml0
  obtain ⟨hx, hby, hown, hnm, X0, e0⟩ := own_start Bd hml0 hh
  have N0 := Fr.nil n0
  have pre0 : ∀ t, oS p e below s₁ (mkF m 0 #[rv a0] []) t → Steps p.tables e below (s₁.setTop (entryFrame m #[(.ref a0)] 1)) t := fun t k => castTop (by first | (simp [entryFrame, mkF, argsToLocals, Value.category]; done) | rfl) k
  obtain ⟨T1, X1, e1, st1⟩ := getF X0 hx hZ hown (host := "") (Or.inl (hw _ (own_w 20 rfl))) Via.refl e0 hV (g := (mkF m 1 #[rv a0] [(.ref a0)])) rfl rfl (hb hby d12_1)
  obtain ⟨cl2, Ar2, qk2, Sz2, Ng2, Hs2, Gs2⟩ := id hB
  obtain ⟨_, T3, Lc3, X3, hQ3, st3⟩ := own_virtual (W := 1) (y := mN5) (z := mN5) X1 hx hZ hown (hw _ (own_w 56 rfl)) (hw _ (own_w 57 rfl)) (notFace_of_selects (args := #[]) (mvT hZ (hw _ (own_w 59 rfl)))) (hw _ (own_w 59 rfl)) (hw _ (own_w 58 rfl)) (hw _ (own_w 60 rfl)) (hw _ (own_w 2 rfl)) (by decide) (rmCoder_0 l Z av0 hw [] a0 wC h0 n0 Z0 hS hw0 hC) (by decide) (by decide) hE (g := (mkF m 6 #[rv a0] [(.ref a0), (.int 3)])) rfl (by rw [hml]; rfl) (argsL := []) (rest := [(.int 3)]) (lenOf pd__B rfl) rfl (hb hby d12_6) rfl e1 (by decide : 0 + 0 ≤ _) (by decide : 0 + 0 ≤ _)
  obtain ⟨rfl, N3q, hh3⟩ := hQ3
  have N3 := Fr.app N0 N3q
  have e3 : T3.heap = h0 := hh3
  have S4 : ∀ t, oS p e below T3 (mkF m 10 #[rv a0] [(.int 3)]) t → oS p e below s₁ (mkF m 0 #[rv a0] []) t := fun t k => id (by
    show oS p e below s₁ (mkF m 0 #[rv a0] []) _
    refine XS.aloadN X0.here hx rfl (hb hby d12_0) rfl rfl ?_
    refine st1 _ ?_
    refine X1.arraylength hx (by rw [e1]; exact Ar2.1) (State.isArrayOf_alike hZ.alike Ar2.2.1) (g := (mkF m 4 #[rv a0] [(.ref ab)])) rfl rfl (hb hby d12_4) _ ?_
    rw [len_of Sz2 Ng2]
    refine XS.aloadN X1.here hx rfl (hb hby d12_5) rfl rfl ?_
    refine st3 _ ?_
    refine XT.ishr X3.here hx rfl (hb hby d12_9) rfl ?_
    exact k)
  obtain ⟨fs, hr, hrun, hended, hW, hsame⟩ := X3.leave (v := some (.int 3)) (fun h => by rw [Bd.returns] at h; cases h)
  refine ⟨_, _, pre0 _ (S4 _ ?_), hrun, hended, _, _, rfl, ?_, ⟨_, rfl⟩, hW, hsame.mono (by decide) (by decide)⟩
  · exact retI X3 hx Bd.returns (hb hby d12_10) hr
  · show QrmLen_3_0 Z a0 ab kb wC c0 c1 c2 h0 n0 _ T3.heap _
    rw [e3]
    exact ⟨congrArg (fun z => some (Value.int z)) (by decide), N3, rfl⟩
def QrmLen_3_1 (Z : State) (a0 : Addr) (ab : Addr) (kb : ClassId) (wC : Int32) (c0 : Int32) (c1 : Int32) (c2 : Int32) (h0 : Heap) (n0 : Nat) (v : Option Value) (h : Heap) (L : List Loc) : Prop := v = some (.int (3 : Int32)) ∧ Fr n0 L ∧ h = h0
set_option maxRecDepth 65536 in
set_option maxHeartbeats 40000000 in
theorem rmLen_3_1 (l : Launch) (Z : State) (av0 : Array Value) (hw : ∀ d ∈ tables_1, d.before av0 Z = true) (ws : List Jvm.Cond) (a0 : Addr) (ab : Addr) (kb : ClassId) (wC : Int32) (c0 : Int32) (c1 : Int32) (c2 : Int32) (h0 : Heap) (n0 : Nat) (Z0 : n0 ≤ h0.size) (hE : Exa Z h0 a0 "java/lang/String") (hV : Fld Z h0 a0 "java/lang/String" "value" "[B" (.ref ab)) (hC : Fld Z h0 a0 "java/lang/String" "coder" "B" (.int (1 : Int32))) (hB : Arv Z h0 ab kb .byte (6 : Int32) [(.int (own_lo c0)), (.int (own_hi c0)), (.int (own_lo c1)), (.int (own_hi c1)), (.int (own_lo c2)), (.int (own_hi c2))] (.int (0 : Int32))) (hS : Sta Z h0 "java/lang/String" "COMPACT_STRINGS" "Z" (.int wC)) (hw0 : ¬ wC = (0 : Int32)) :
    own_Met l mN6 jdk_42_method_54_code 1 (some .int) ws ({ frames := 1, cells := 0, slots := 0, locals := 13 } : Room) #[(.ref a0)] Z h0 (QrmLen_3_1 Z a0 ab kb wC c0 c1 c2 h0 n0) := by
  refine MetFree.of_bodySF (plainFor_of_name pn_String) hisR ?_
  intro p e s m args below meth c s₁ Bd hml0 hP hK
  obtain ⟨rfl, hZ, hh⟩ := hP
  have hml : c.maxLocals = 1 := hml0
  obtain ⟨hx, hby, hown, hnm, X0, e0⟩ := own_start Bd hml0 hh
  have N0 := Fr.nil n0
  have pre0 : ∀ t, oS p e below s₁ (mkF m 0 #[rv a0] []) t → Steps p.tables e below (s₁.setTop (entryFrame m #[(.ref a0)] 1)) t := fun t k => castTop (by first | (simp [entryFrame, mkF, argsToLocals, Value.category]; done) | rfl) k
  obtain ⟨T1, X1, e1, st1⟩ := getF X0 hx hZ hown (host := "") (Or.inl (hw _ (own_w 20 rfl))) Via.refl e0 hV (g := (mkF m 1 #[rv a0] [(.ref a0)])) rfl rfl (hb hby d12_1)
  obtain ⟨cl2, Ar2, qk2, Sz2, Ng2, Hs2, Gs2⟩ := id hB
  obtain ⟨_, T3, Lc3, X3, hQ3, st3⟩ := own_virtual (W := 1) (y := mN5) (z := mN5) X1 hx hZ hown (hw _ (own_w 56 rfl)) (hw _ (own_w 57 rfl)) (notFace_of_selects (args := #[]) (mvT hZ (hw _ (own_w 59 rfl)))) (hw _ (own_w 59 rfl)) (hw _ (own_w 58 rfl)) (hw _ (own_w 60 rfl)) (hw _ (own_w 2 rfl)) (by decide) (rmCoder_1 l Z av0 hw [] a0 wC h0 n0 Z0 hS hw0 hC) (by decide) (by decide) hE (g := (mkF m 6 #[rv a0] [(.ref a0), (.int 6)])) rfl (by rw [hml]; rfl) (argsL := []) (rest := [(.int 6)]) (lenOf pd__B rfl) rfl (hb hby d12_6) rfl e1 (by decide : 0 + 0 ≤ _) (by decide : 0 + 0 ≤ _)
  obtain ⟨rfl, N3q, hh3⟩ := hQ3
  have N3 := Fr.app N0 N3q
  have e3 : T3.heap = h0 := hh3
  have S4 : ∀ t, oS p e below T3 (mkF m 10 #[rv a0] [(.int 3)]) t → oS p e below s₁ (mkF m 0 #[rv a0] []) t := fun t k => id (by
    show oS p e below s₁ (mkF m 0 #[rv a0] []) _
    refine XS.aloadN X0.here hx rfl (hb hby d12_0) rfl rfl ?_
    refine st1 _ ?_
    refine X1.arraylength hx (by rw [e1]; exact Ar2.1) (State.isArrayOf_alike hZ.alike Ar2.2.1) (g := (mkF m 4 #[rv a0] [(.ref ab)])) rfl rfl (hb hby d12_4) _ ?_
    rw [len_of Sz2 Ng2]
    refine XS.aloadN X1.here hx rfl (hb hby d12_5) rfl rfl ?_
    refine st3 _ ?_
    refine XT.ishr X3.here hx rfl (hb hby d12_9) rfl ?_
    exact k)
  obtain ⟨fs, hr, hrun, hended, hW, hsame⟩ := X3.leave (v := some (.int 3)) (fun h => by rw [Bd.returns] at h; cases h)
  refine ⟨_, _, pre0 _ (S4 _ ?_), hrun, hended, _, _, rfl, ?_, ⟨_, rfl⟩, hW, hsame.mono (by decide) (by decide)⟩
  · exact retI X3 hx Bd.returns (hb hby d12_10) hr
  · show QrmLen_3_1 Z a0 ab kb wC c0 c1 c2 h0 n0 _ T3.heap _
    rw [e3]
    exact ⟨congrArg (fun z => some (Value.int z)) (by decide), N3, rfl⟩
theorem rmLenJ_3 (l : Launch) (Z : State) (av0 : Array Value) (hw : ∀ d ∈ tables_1, d.before av0 Z = true) (ws : List Jvm.Cond) (a0 : Addr) (wC : Int32) (fm : Value) (c0 : Int32) (c1 : Int32) (c2 : Int32) (h0 : Heap) (n0 : Nat) (Z0 : n0 ≤ h0.size) (hE : Exa Z h0 a0 "java/lang/String") (hSt : own_St3 Z h0 a0 c0 c1 c2) (hS : Sta Z h0 "java/lang/String" "COMPACT_STRINGS" "Z" (.int wC)) (hw0 : ¬ wC = (0 : Int32))  :
    own_Met l mN6 jdk_42_method_54_code 1 (some .int) ws ({ frames := 1, cells := 0, slots := 0, locals := 13 } : Room) #[(.ref a0)] Z h0 (fun v h L => v = some (.int (3 : Int32)) ∧ Fr n0 L ∧ h = h0) := by
  rcases hSt with ⟨ab, kb, hV, hC, hB, lt0, lt1, lt2⟩ | ⟨ab, kb, hV, hC, hB⟩
  · exact rmLen_3_0 l Z av0 hw ws a0 ab kb wC c0 c1 c2 h0 n0 Z0 hE hV hC hB hS hw0
  · exact rmLen_3_1 l Z av0 hw ws a0 ab kb wC c0 c1 c2 h0 n0 Z0 hE hV hC hB hS hw0
theorem rmChJ_3_0 (l : Launch) (Z : State) (av0 : Array Value) (hw : ∀ d ∈ tables_1, d.before av0 Z = true) (ws : List Jvm.Cond) (a0 : Addr) (wC : Int32) (fm : Value) (c0 : Int32) (c1 : Int32) (c2 : Int32) (h0 : Heap) (n0 : Nat) (Z0 : n0 ≤ h0.size) (hE : Exa Z h0 a0 "java/lang/String") (hSt : own_St3 Z h0 a0 c0 c1 c2) (hS : Sta Z h0 "java/lang/String" "COMPACT_STRINGS" "Z" (.int wC)) (hw0 : ¬ wC = (0 : Int32)) (hfm : fm.isRef = true) (hF : Sta Z h0 "jdk/internal/util/Preconditions" "SIOOBE_FORMATTER" "Ljava/util/function/BiFunction;" fm) (sA : Sta Z h0 "java/lang/StringUTF16" "$assertionsDisabled" "Z" (.int (1 : Int32))) (sH : Sta Z h0 "java/lang/StringUTF16" "HI_BYTE_SHIFT" "I" (.int (0 : Int32))) (sL : Sta Z h0 "java/lang/StringUTF16" "LO_BYTE_SHIFT" "I" (.int (8 : Int32))) (hg : 0 ≤ c0.toInt ∧ c0.toInt < 65536) :
    own_Met l mN15 jdk_42_method_56_code 2 (some .char) ws ({ frames := 4, cells := 0, slots := 0, locals := 53 } : Room) #[(.ref a0), (.int (0 : Int32))] Z h0 (fun v h L => v = some (.int c0) ∧ Fr n0 L ∧ h = h0) := by
  rcases hSt with ⟨ab, kb, hV, hC, hB, lt0, lt1, lt2⟩ | ⟨ab, kb, hV, hC, hB⟩
  · exact rmCh0 l Z av0 hw ws a0 ab kb wC (3 : Int32) [(.int (own_b c0)), (.int (own_b c1)), (.int (own_b c2))] (0 : Int32) fm c0 h0 n0 Z0 hE hV hC hB hS hw0 hfm hF (by decide) (by decide) rfl ⟨hg.1, lt0⟩
  · exact rmCh1 l Z av0 hw ws a0 ab kb wC (6 : Int32) [(.int (own_lo c0)), (.int (own_hi c0)), (.int (own_lo c1)), (.int (own_hi c1)), (.int (own_lo c2)), (.int (own_hi c2))] (0 : Int32) fm c0 h0 n0 Z0 hE hV hC hB hS hw0 hfm hF sA sH sL (by decide) (by decide) (by decide) (by decide) rfl rfl hg
theorem rmChJ_3_1 (l : Launch) (Z : State) (av0 : Array Value) (hw : ∀ d ∈ tables_1, d.before av0 Z = true) (ws : List Jvm.Cond) (a0 : Addr) (wC : Int32) (fm : Value) (c0 : Int32) (c1 : Int32) (c2 : Int32) (h0 : Heap) (n0 : Nat) (Z0 : n0 ≤ h0.size) (hE : Exa Z h0 a0 "java/lang/String") (hSt : own_St3 Z h0 a0 c0 c1 c2) (hS : Sta Z h0 "java/lang/String" "COMPACT_STRINGS" "Z" (.int wC)) (hw0 : ¬ wC = (0 : Int32)) (hfm : fm.isRef = true) (hF : Sta Z h0 "jdk/internal/util/Preconditions" "SIOOBE_FORMATTER" "Ljava/util/function/BiFunction;" fm) (sA : Sta Z h0 "java/lang/StringUTF16" "$assertionsDisabled" "Z" (.int (1 : Int32))) (sH : Sta Z h0 "java/lang/StringUTF16" "HI_BYTE_SHIFT" "I" (.int (0 : Int32))) (sL : Sta Z h0 "java/lang/StringUTF16" "LO_BYTE_SHIFT" "I" (.int (8 : Int32))) (hg : 0 ≤ c1.toInt ∧ c1.toInt < 65536) :
    own_Met l mN15 jdk_42_method_56_code 2 (some .char) ws ({ frames := 4, cells := 0, slots := 0, locals := 53 } : Room) #[(.ref a0), (.int (1 : Int32))] Z h0 (fun v h L => v = some (.int c1) ∧ Fr n0 L ∧ h = h0) := by
  rcases hSt with ⟨ab, kb, hV, hC, hB, lt0, lt1, lt2⟩ | ⟨ab, kb, hV, hC, hB⟩
  · exact rmCh0 l Z av0 hw ws a0 ab kb wC (3 : Int32) [(.int (own_b c0)), (.int (own_b c1)), (.int (own_b c2))] (1 : Int32) fm c1 h0 n0 Z0 hE hV hC hB hS hw0 hfm hF (by decide) (by decide) rfl ⟨hg.1, lt1⟩
  · exact rmCh1 l Z av0 hw ws a0 ab kb wC (6 : Int32) [(.int (own_lo c0)), (.int (own_hi c0)), (.int (own_lo c1)), (.int (own_hi c1)), (.int (own_lo c2)), (.int (own_hi c2))] (1 : Int32) fm c1 h0 n0 Z0 hE hV hC hB hS hw0 hfm hF sA sH sL (by decide) (by decide) (by decide) (by decide) rfl rfl hg
theorem rmChJ_3_2 (l : Launch) (Z : State) (av0 : Array Value) (hw : ∀ d ∈ tables_1, d.before av0 Z = true) (ws : List Jvm.Cond) (a0 : Addr) (wC : Int32) (fm : Value) (c0 : Int32) (c1 : Int32) (c2 : Int32) (h0 : Heap) (n0 : Nat) (Z0 : n0 ≤ h0.size) (hE : Exa Z h0 a0 "java/lang/String") (hSt : own_St3 Z h0 a0 c0 c1 c2) (hS : Sta Z h0 "java/lang/String" "COMPACT_STRINGS" "Z" (.int wC)) (hw0 : ¬ wC = (0 : Int32)) (hfm : fm.isRef = true) (hF : Sta Z h0 "jdk/internal/util/Preconditions" "SIOOBE_FORMATTER" "Ljava/util/function/BiFunction;" fm) (sA : Sta Z h0 "java/lang/StringUTF16" "$assertionsDisabled" "Z" (.int (1 : Int32))) (sH : Sta Z h0 "java/lang/StringUTF16" "HI_BYTE_SHIFT" "I" (.int (0 : Int32))) (sL : Sta Z h0 "java/lang/StringUTF16" "LO_BYTE_SHIFT" "I" (.int (8 : Int32))) (hg : 0 ≤ c2.toInt ∧ c2.toInt < 65536) :
    own_Met l mN15 jdk_42_method_56_code 2 (some .char) ws ({ frames := 4, cells := 0, slots := 0, locals := 53 } : Room) #[(.ref a0), (.int (2 : Int32))] Z h0 (fun v h L => v = some (.int c2) ∧ Fr n0 L ∧ h = h0) := by
  rcases hSt with ⟨ab, kb, hV, hC, hB, lt0, lt1, lt2⟩ | ⟨ab, kb, hV, hC, hB⟩
  · exact rmCh0 l Z av0 hw ws a0 ab kb wC (3 : Int32) [(.int (own_b c0)), (.int (own_b c1)), (.int (own_b c2))] (2 : Int32) fm c2 h0 n0 Z0 hE hV hC hB hS hw0 hfm hF (by decide) (by decide) rfl ⟨hg.1, lt2⟩
  · exact rmCh1 l Z av0 hw ws a0 ab kb wC (6 : Int32) [(.int (own_lo c0)), (.int (own_hi c0)), (.int (own_lo c1)), (.int (own_hi c1)), (.int (own_lo c2)), (.int (own_hi c2))] (2 : Int32) fm c2 h0 n0 Z0 hE hV hC hB hS hw0 hfm hF sA sH sL (by decide) (by decide) (by decide) (by decide) rfl rfl hg
def QrmFv_3 (Z : State) (a0 : Addr) (wC : Int32) (fm : Value) (c0 : Int32) (c1 : Int32) (c2 : Int32) (h0 : Heap) (n0 : Nat) (v : Option Value) (h : Heap) (L : List Loc) : Prop := v = some (.int (own_fv [c0, c1, c2])) ∧ Fr n0 L ∧ h = h0
set_option maxRecDepth 65536 in
set_option maxHeartbeats 40000000 in
theorem rmFv_3 (l : Launch) (Z : State) (av0 : Array Value) (hw : ∀ d ∈ tables_1, d.before av0 Z = true) (ws : List Jvm.Cond) (a0 : Addr) (wC : Int32) (fm : Value) (c0 : Int32) (c1 : Int32) (c2 : Int32) (h0 : Heap) (n0 : Nat) (Z0 : n0 ≤ h0.size) (hE : Exa Z h0 a0 "java/lang/String") (hSt : own_St3 Z h0 a0 c0 c1 c2) (hS : Sta Z h0 "java/lang/String" "COMPACT_STRINGS" "Z" (.int wC)) (hw0 : ¬ wC = (0 : Int32)) (hfm : fm.isRef = true) (hF : Sta Z h0 "jdk/internal/util/Preconditions" "SIOOBE_FORMATTER" "Ljava/util/function/BiFunction;" fm) (sA : Sta Z h0 "java/lang/StringUTF16" "$assertionsDisabled" "Z" (.int (1 : Int32))) (sH : Sta Z h0 "java/lang/StringUTF16" "HI_BYTE_SHIFT" "I" (.int (0 : Int32))) (sL : Sta Z h0 "java/lang/StringUTF16" "LO_BYTE_SHIFT" "I" (.int (8 : Int32))) (hg0 : 0 ≤ c0.toInt ∧ c0.toInt < 65536) (hg1 : 0 ≤ c1.toInt ∧ c1.toInt < 65536) (hg2 : 0 ≤ c2.toInt ∧ c2.toInt < 65536) :
    own_Met l mN7 prog_27_method_5_code 4 (some .boolean) ws ({ frames := 5, cells := 0, slots := 0, locals := 66 } : Room) #[(.ref a0)] Z h0 (QrmFv_3 Z a0 wC fm c0 c1 c2 h0 n0) := by
  refine MetFree.of_bodySF (plainFor_of_name pn_HttpFields) hisR ?_
  intro p e s m args below meth c s₁ Bd hml0 hP hK
  obtain ⟨rfl, hZ, hh⟩ := hP
  have hml : c.maxLocals = 4 := hml0
  obtain ⟨hx, hby, hown, hnm, X0, e0⟩ := own_start Bd hml0 hh
  have N0 := Fr.nil n0
  have pre0 : ∀ t, oS p e below s₁ (mkF m 0 #[rv a0, .unset, .unset, .unset] []) t → Steps p.tables e below (s₁.setTop (entryFrame m #[(.ref a0)] 4)) t := fun t k => castTop (by first | (simp [entryFrame, mkF, argsToLocals, Value.category]; done) | rfl) k
  obtain ⟨_, T1, Lc1, X1, hQ1, st1⟩ := own_virtual (W := 1) (y := mN6) (z := mN6) X0 hx hZ hown (hw _ (own_w 51 rfl)) (hw _ (own_w 52 rfl)) (notFace_of_selects (args := #[]) (mvT hZ (hw _ (own_w 54 rfl)))) (hw _ (own_w 54 rfl)) (hw _ (own_w 53 rfl)) (hw _ (own_w 55 rfl)) (hw _ (own_w 2 rfl)) (by decide) (rmLenJ_3 l Z av0 hw [] a0 wC fm c0 c1 c2 h0 n0 Z0 hE hSt hS hw0) (by decide) (by decide) hE (g := (mkF m 6 #[rv a0, iv 1, iv 0, .unset] [(.ref a0), (.int 0)])) rfl (by rw [hml]; rfl) (argsL := []) (rest := [(.int 0)]) (lenOf pd__I rfl) rfl (hb hby d11_6) rfl e0 (by decide : 0 + 0 ≤ _) (by decide : 0 + 0 ≤ _)
  obtain ⟨rfl, N1q, hh1⟩ := hQ1
  have N1 := Fr.app N0 N1q
  have e1 : T1.heap = h0 := hh1
  obtain ⟨_, T2, Lc2, X2, hQ2, st2⟩ := own_virtual (W := 0) (y := mN15) (z := mN15) X1 hx hZ hown (hw _ (own_w 61 rfl)) (hw _ (own_w 62 rfl)) (notFace_of_selects (args := #[]) (mvT hZ (hw _ (own_w 64 rfl)))) (hw _ (own_w 64 rfl)) (hw _ (own_w 63 rfl)) (hw _ (own_w 65 rfl)) (hw _ (own_w 2 rfl)) (by decide) (rmChJ_3_0 l Z av0 hw [] a0 wC fm c0 c1 c2 h0 n0 Z0 hE hSt hS hw0 hfm hF sA sH sL hg0) (by decide) (by decide) hE (g := (mkF m 18 #[rv a0, iv 1, iv 0, .unset] [(.int 0), (.ref a0)])) rfl (by rw [hml]; rfl) (argsL := [(.int 0)]) (rest := []) (lenOf pd__I_C rfl) rfl (hb hby d11_18) rfl e1 (by decide : 0 + 0 ≤ _) (by decide : 0 + 0 ≤ _)
  obtain ⟨rfl, N2q, hh2⟩ := hQ2
  have N2 := Fr.app N1 N2q
  have e2 : T2.heap = h0 := hh2
  have S3 : ∀ t, oS p e below T2 (mkF m 25 #[rv a0, iv 1, iv 0, iv c0] [(.int 9), (.int c0)]) t → oS p e below s₁ (mkF m 0 #[rv a0, .unset, .unset, .unset] []) t := fun t k => id (by
    show oS p e below s₁ (mkF m 0 #[rv a0, .unset, .unset, .unset] []) _
    refine XT.iconstV X0.here hx rfl (1 : Int32) (hb hby d11_0) (by decide) ?_
    refine XS.istoreN X0.here hx rfl (hb hby d11_1) rfl (l' := #[rv a0, iv 1, .unset, .unset]) rfl ?_
    refine XT.iconstV X0.here hx rfl (0 : Int32) (hb hby d11_2) (by decide) ?_
    refine XS.istoreN X0.here hx rfl (hb hby d11_3) rfl (l' := #[rv a0, iv 1, iv 0, .unset]) rfl ?_
    refine XS.iloadN X0.here hx rfl (hb hby d11_4) rfl ?_
    refine XS.aloadN X0.here hx rfl (hb hby d11_5) rfl rfl ?_
    refine st1 _ ?_
    refine XS.icmpNo X1.here hx rfl (hb hby d11_9) rfl (XT.ii_ge_f (by decide)) ?_
    refine XS.iloadN X1.here hx rfl (hb hby d11_12) rfl ?_
    refine XS.ifNo X1.here hx rfl (hb hby d11_13) rfl (XT.i0_eq_f (by decide)) ?_
    refine XS.aloadN X1.here hx rfl (hb hby d11_16) rfl rfl ?_
    refine XS.iloadN X1.here hx rfl (hb hby d11_17) rfl ?_
    refine st2 _ ?_
    refine XS.istoreN X2.here hx rfl (hb hby d11_21) rfl (l' := #[rv a0, iv 1, iv 0, iv c0]) rfl ?_
    refine XS.iloadN X2.here hx rfl (hb hby d11_22) rfl ?_
    show oS p e below T2 (mkF m 23 #[rv a0, iv 1, iv 0, iv c0] [(.int c0)]) _
    refine XT.bipushV X2.here hx rfl (9 : Int32) (hb hby d11_23) (by decide) ?_
    exact k)
  by_cases hc25_4 : c0 = (9 : Int32)
  · obtain ⟨_, T5, Lc5, X5, hQ5, st5⟩ := own_virtual (W := 1) (y := mN6) (z := mN6) X2 hx hZ hown (hw _ (own_w 51 rfl)) (hw _ (own_w 52 rfl)) (notFace_of_selects (args := #[]) (mvT hZ (hw _ (own_w 54 rfl)))) (hw _ (own_w 54 rfl)) (hw _ (own_w 53 rfl)) (hw _ (own_w 55 rfl)) (hw _ (own_w 2 rfl)) (by decide) (rmLenJ_3 l Z av0 hw [] a0 wC fm c0 c1 c2 h0 n0 Z0 hE hSt hS hw0) (by decide) (by decide) hE (g := (mkF m 6 #[rv a0, iv 1, iv 1, iv c0] [(.ref a0), (.int 1)])) rfl (by rw [hml]; rfl) (argsL := []) (rest := [(.int 1)]) (lenOf pd__I rfl) rfl (hb hby d11_6) rfl e2 (by decide : 0 + 0 ≤ _) (by decide : 0 + 0 ≤ _)
    obtain ⟨rfl, N5q, hh5⟩ := hQ5
    have N5 := Fr.app N2 N5q
    have e5 : T5.heap = h0 := hh5
    obtain ⟨_, T6, Lc6, X6, hQ6, st6⟩ := own_virtual (W := 0) (y := mN15) (z := mN15) X5 hx hZ hown (hw _ (own_w 61 rfl)) (hw _ (own_w 62 rfl)) (notFace_of_selects (args := #[]) (mvT hZ (hw _ (own_w 64 rfl)))) (hw _ (own_w 64 rfl)) (hw _ (own_w 63 rfl)) (hw _ (own_w 65 rfl)) (hw _ (own_w 2 rfl)) (by decide) (rmChJ_3_1 l Z av0 hw [] a0 wC fm c0 c1 c2 h0 n0 Z0 hE hSt hS hw0 hfm hF sA sH sL hg1) (by decide) (by decide) hE (g := (mkF m 18 #[rv a0, iv 1, iv 1, iv c0] [(.int 1), (.ref a0)])) rfl (by rw [hml]; rfl) (argsL := [(.int 1)]) (rest := []) (lenOf pd__I_C rfl) rfl (hb hby d11_18) rfl e5 (by decide : 0 + 0 ≤ _) (by decide : 0 + 0 ≤ _)
    obtain ⟨rfl, N6q, hh6⟩ := hQ6
    have N6 := Fr.app N5 N6q
    have e6 : T6.heap = h0 := hh6
    have S7 : ∀ t, oS p e below T6 (mkF m 25 #[rv a0, iv 1, iv 1, iv c1] [(.int 9), (.int c1)]) t → oS p e below s₁ (mkF m 0 #[rv a0, .unset, .unset, .unset] []) t := fun t k => S3 t (by
      show oS p e below T2 (mkF m 25 #[rv a0, iv 1, iv 0, iv c0] [(.int 9), (.int c0)]) _
      refine XS.icmpYes X2.here hx rfl (pc0 := 25) (pc' := 35) rfl (hb hby d11_25) rfl (XT.ii_eq_t hc25_4) (by decide) (by decide) ?_
      refine XT.iconstV X2.here hx rfl (1 : Int32) (hb hby d11_35) (by decide) ?_
      refine XS.goto X2.here hx rfl (pc0 := 36) (pc' := 40) rfl (hb hby d11_36) (by decide) (by decide) ?_
      refine XS.istoreN X2.here hx rfl (hb hby d11_40) rfl (l' := #[rv a0, iv 1, iv 0, iv c0]) rfl ?_
      refine XT.iincV X2.here hx rfl (1 : Int32) (hb hby d11_41) (by decide) rfl (l' := #[rv a0, iv 1, iv 1, iv c0]) rfl ?_
      refine XS.goto X2.here hx rfl (pc0 := 44) (pc' := 4) rfl (hb hby d11_44) (by decide) (by decide) ?_
      refine XS.iloadN X2.here hx rfl (hb hby d11_4) rfl ?_
      refine XS.aloadN X2.here hx rfl (hb hby d11_5) rfl rfl ?_
      refine st5 _ ?_
      refine XS.icmpNo X5.here hx rfl (hb hby d11_9) rfl (XT.ii_ge_f (by decide)) ?_
      refine XS.iloadN X5.here hx rfl (hb hby d11_12) rfl ?_
      refine XS.ifNo X5.here hx rfl (hb hby d11_13) rfl (XT.i0_eq_f (by decide)) ?_
      refine XS.aloadN X5.here hx rfl (hb hby d11_16) rfl rfl ?_
      refine XS.iloadN X5.here hx rfl (hb hby d11_17) rfl ?_
      show oS p e below T5 (mkF m 18 #[rv a0, iv 1, iv 1, iv c0] [(.int 1), (.ref a0)]) _
      refine st6 _ ?_
      refine XS.istoreN X6.here hx rfl (hb hby d11_21) rfl (l' := #[rv a0, iv 1, iv 1, iv c1]) rfl ?_
      refine XS.iloadN X6.here hx rfl (hb hby d11_22) rfl ?_
      refine XT.bipushV X6.here hx rfl (9 : Int32) (hb hby d11_23) (by decide) ?_
      exact k)
    by_cases hc25_8 : c1 = (9 : Int32)
    · obtain ⟨_, T9, Lc9, X9, hQ9, st9⟩ := own_virtual (W := 1) (y := mN6) (z := mN6) X6 hx hZ hown (hw _ (own_w 51 rfl)) (hw _ (own_w 52 rfl)) (notFace_of_selects (args := #[]) (mvT hZ (hw _ (own_w 54 rfl)))) (hw _ (own_w 54 rfl)) (hw _ (own_w 53 rfl)) (hw _ (own_w 55 rfl)) (hw _ (own_w 2 rfl)) (by decide) (rmLenJ_3 l Z av0 hw [] a0 wC fm c0 c1 c2 h0 n0 Z0 hE hSt hS hw0) (by decide) (by decide) hE (g := (mkF m 6 #[rv a0, iv 1, iv 2, iv c1] [(.ref a0), (.int 2)])) rfl (by rw [hml]; rfl) (argsL := []) (rest := [(.int 2)]) (lenOf pd__I rfl) rfl (hb hby d11_6) rfl e6 (by decide : 0 + 0 ≤ _) (by decide : 0 + 0 ≤ _)
      obtain ⟨rfl, N9q, hh9⟩ := hQ9
      have N9 := Fr.app N6 N9q
      have e9 : T9.heap = h0 := hh9
      obtain ⟨_, T10, Lc10, X10, hQ10, st10⟩ := own_virtual (W := 0) (y := mN15) (z := mN15) X9 hx hZ hown (hw _ (own_w 61 rfl)) (hw _ (own_w 62 rfl)) (notFace_of_selects (args := #[]) (mvT hZ (hw _ (own_w 64 rfl)))) (hw _ (own_w 64 rfl)) (hw _ (own_w 63 rfl)) (hw _ (own_w 65 rfl)) (hw _ (own_w 2 rfl)) (by decide) (rmChJ_3_2 l Z av0 hw [] a0 wC fm c0 c1 c2 h0 n0 Z0 hE hSt hS hw0 hfm hF sA sH sL hg2) (by decide) (by decide) hE (g := (mkF m 18 #[rv a0, iv 1, iv 2, iv c1] [(.int 2), (.ref a0)])) rfl (by rw [hml]; rfl) (argsL := [(.int 2)]) (rest := []) (lenOf pd__I_C rfl) rfl (hb hby d11_18) rfl e9 (by decide : 0 + 0 ≤ _) (by decide : 0 + 0 ≤ _)
      obtain ⟨rfl, N10q, hh10⟩ := hQ10
      have N10 := Fr.app N9 N10q
      have e10 : T10.heap = h0 := hh10
      have S11 : ∀ t, oS p e below T10 (mkF m 25 #[rv a0, iv 1, iv 2, iv c2] [(.int 9), (.int c2)]) t → oS p e below s₁ (mkF m 0 #[rv a0, .unset, .unset, .unset] []) t := fun t k => S7 t (by
        show oS p e below T6 (mkF m 25 #[rv a0, iv 1, iv 1, iv c1] [(.int 9), (.int c1)]) _
        refine XS.icmpYes X6.here hx rfl (pc0 := 25) (pc' := 35) rfl (hb hby d11_25) rfl (XT.ii_eq_t hc25_8) (by decide) (by decide) ?_
        refine XT.iconstV X6.here hx rfl (1 : Int32) (hb hby d11_35) (by decide) ?_
        refine XS.goto X6.here hx rfl (pc0 := 36) (pc' := 40) rfl (hb hby d11_36) (by decide) (by decide) ?_
        refine XS.istoreN X6.here hx rfl (hb hby d11_40) rfl (l' := #[rv a0, iv 1, iv 1, iv c1]) rfl ?_
        refine XT.iincV X6.here hx rfl (1 : Int32) (hb hby d11_41) (by decide) rfl (l' := #[rv a0, iv 1, iv 2, iv c1]) rfl ?_
        refine XS.goto X6.here hx rfl (pc0 := 44) (pc' := 4) rfl (hb hby d11_44) (by decide) (by decide) ?_
        refine XS.iloadN X6.here hx rfl (hb hby d11_4) rfl ?_
        refine XS.aloadN X6.here hx rfl (hb hby d11_5) rfl rfl ?_
        refine st9 _ ?_
        refine XS.icmpNo X9.here hx rfl (hb hby d11_9) rfl (XT.ii_ge_f (by decide)) ?_
        refine XS.iloadN X9.here hx rfl (hb hby d11_12) rfl ?_
        show oS p e below T9 (mkF m 13 #[rv a0, iv 1, iv 2, iv c1] [(.int 1)]) _
        refine XS.ifNo X9.here hx rfl (hb hby d11_13) rfl (XT.i0_eq_f (by decide)) ?_
        refine XS.aloadN X9.here hx rfl (hb hby d11_16) rfl rfl ?_
        refine XS.iloadN X9.here hx rfl (hb hby d11_17) rfl ?_
        refine st10 _ ?_
        refine XS.istoreN X10.here hx rfl (hb hby d11_21) rfl (l' := #[rv a0, iv 1, iv 2, iv c2]) rfl ?_
        refine XS.iloadN X10.here hx rfl (hb hby d11_22) rfl ?_
        refine XT.bipushV X10.here hx rfl (9 : Int32) (hb hby d11_23) (by decide) ?_
        exact k)
      by_cases hc25_12 : c2 = (9 : Int32)
      · obtain ⟨_, T13, Lc13, X13, hQ13, st13⟩ := own_virtual (W := 1) (y := mN6) (z := mN6) X10 hx hZ hown (hw _ (own_w 51 rfl)) (hw _ (own_w 52 rfl)) (notFace_of_selects (args := #[]) (mvT hZ (hw _ (own_w 54 rfl)))) (hw _ (own_w 54 rfl)) (hw _ (own_w 53 rfl)) (hw _ (own_w 55 rfl)) (hw _ (own_w 2 rfl)) (by decide) (rmLenJ_3 l Z av0 hw [] a0 wC fm c0 c1 c2 h0 n0 Z0 hE hSt hS hw0) (by decide) (by decide) hE (g := (mkF m 6 #[rv a0, iv 1, iv 3, iv c2] [(.ref a0), (.int 3)])) rfl (by rw [hml]; rfl) (argsL := []) (rest := [(.int 3)]) (lenOf pd__I rfl) rfl (hb hby d11_6) rfl e10 (by decide : 0 + 0 ≤ _) (by decide : 0 + 0 ≤ _)
        obtain ⟨rfl, N13q, hh13⟩ := hQ13
        have N13 := Fr.app N10 N13q
        have e13 : T13.heap = h0 := hh13
        have S14 : ∀ t, oS p e below T13 (mkF m 48 #[rv a0, iv 1, iv 3, iv c2] [(.int 1)]) t → oS p e below s₁ (mkF m 0 #[rv a0, .unset, .unset, .unset] []) t := fun t k => S11 t (by
          show oS p e below T10 (mkF m 25 #[rv a0, iv 1, iv 2, iv c2] [(.int 9), (.int c2)]) _
          refine XS.icmpYes X10.here hx rfl (pc0 := 25) (pc' := 35) rfl (hb hby d11_25) rfl (XT.ii_eq_t hc25_12) (by decide) (by decide) ?_
          refine XT.iconstV X10.here hx rfl (1 : Int32) (hb hby d11_35) (by decide) ?_
          refine XS.goto X10.here hx rfl (pc0 := 36) (pc' := 40) rfl (hb hby d11_36) (by decide) (by decide) ?_
          refine XS.istoreN X10.here hx rfl (hb hby d11_40) rfl (l' := #[rv a0, iv 1, iv 2, iv c2]) rfl ?_
          refine XT.iincV X10.here hx rfl (1 : Int32) (hb hby d11_41) (by decide) rfl (l' := #[rv a0, iv 1, iv 3, iv c2]) rfl ?_
          refine XS.goto X10.here hx rfl (pc0 := 44) (pc' := 4) rfl (hb hby d11_44) (by decide) (by decide) ?_
          refine XS.iloadN X10.here hx rfl (hb hby d11_4) rfl ?_
          refine XS.aloadN X10.here hx rfl (hb hby d11_5) rfl rfl ?_
          show oS p e below T10 (mkF m 6 #[rv a0, iv 1, iv 3, iv c2] [(.ref a0), (.int 3)]) _
          refine st13 _ ?_
          refine XS.icmpYes X13.here hx rfl (pc0 := 9) (pc' := 47) rfl (hb hby d11_9) rfl (XT.ii_ge_t (by decide)) (by decide) (by decide) ?_
          refine XS.iloadN X13.here hx rfl (hb hby d11_47) rfl ?_
          exact k)
        obtain ⟨fs, hr, hrun, hended, hW, hsame⟩ := X13.leave (v := some (.int 1)) (fun h => by rw [Bd.returns] at h; cases h)
        refine ⟨_, _, pre0 _ (S14 _ ?_), hrun, hended, _, _, rfl, ?_, ⟨_, rfl⟩, hW, hsame.mono (by decide) (by decide)⟩
        · exact retN X13 hx (t := .boolean) Bd.returns (by simp) (hb hby d11_48) hr
        · show QrmFv_3 Z a0 wC fm c0 c1 c2 h0 n0 _ T13.heap _
          rw [e13]
          exact ⟨by simp [own_fv, hc25_4, hc25_8, hc25_12], N13, rfl⟩
      · obtain ⟨_, T15, Lc15, X15, hQ15, st15⟩ := own_callS (W := 0) (y := mN1) X10 hx hZ hown (hw _ (own_w 82 rfl)) (hw _ (own_w 83 rfl)) (hw _ (own_w 84 rfl)) (hw _ (own_w 85 rfl)) (by decide) (rmIsoC l Z av0 hw [] c2 h0 n0 Z0 ) (by decide) (by decide) (g := (mkF m 29 #[rv a0, iv 1, iv 2, iv c2] [(.int c2)])) rfl (by rw [hml]; rfl) (argsL := [(.int c2)]) (rest := []) (lenOf pd__C_Z rfl) rfl (hb hby d11_29) rfl e10 (by decide : 0 + 0 ≤ _) (by decide : 0 + 0 ≤ _)
        obtain ⟨rfl, N15q, hh15⟩ := hQ15
        have N15 := Fr.app N10 N15q
        have e15 : T15.heap = h0 := hh15
        have S16 : ∀ t, oS p e below T15 (mkF m 32 #[rv a0, iv 1, iv 2, iv c2] [(.int (own_iso c2))]) t → oS p e below s₁ (mkF m 0 #[rv a0, .unset, .unset, .unset] []) t := fun t k => S11 t (by
          show oS p e below T10 (mkF m 25 #[rv a0, iv 1, iv 2, iv c2] [(.int 9), (.int c2)]) _
          refine XS.icmpNo X10.here hx rfl (hb hby d11_25) rfl (XT.ii_eq_f hc25_12) ?_
          refine XS.iloadN X10.here hx rfl (hb hby d11_28) rfl ?_
          refine st15 _ ?_
          exact k)
        by_cases hc32_17 : (own_iso c2) = (0 : Int32)
        · obtain ⟨_, T18, Lc18, X18, hQ18, st18⟩ := own_virtual (W := 1) (y := mN6) (z := mN6) X15 hx hZ hown (hw _ (own_w 51 rfl)) (hw _ (own_w 52 rfl)) (notFace_of_selects (args := #[]) (mvT hZ (hw _ (own_w 54 rfl)))) (hw _ (own_w 54 rfl)) (hw _ (own_w 53 rfl)) (hw _ (own_w 55 rfl)) (hw _ (own_w 2 rfl)) (by decide) (rmLenJ_3 l Z av0 hw [] a0 wC fm c0 c1 c2 h0 n0 Z0 hE hSt hS hw0) (by decide) (by decide) hE (g := (mkF m 6 #[rv a0, iv 1, iv 3, iv c2] [(.ref a0), (.int 3)])) rfl (by rw [hml]; rfl) (argsL := []) (rest := [(.int 3)]) (lenOf pd__I rfl) rfl (hb hby d11_6) rfl e15 (by decide : 0 + 0 ≤ _) (by decide : 0 + 0 ≤ _)
          obtain ⟨rfl, N18q, hh18⟩ := hQ18
          have N18 := Fr.app N15 N18q
          have e18 : T18.heap = h0 := hh18
          have S19 : ∀ t, oS p e below T18 (mkF m 48 #[rv a0, iv 1, iv 3, iv c2] [(.int 1)]) t → oS p e below s₁ (mkF m 0 #[rv a0, .unset, .unset, .unset] []) t := fun t k => S16 t (by
            show oS p e below T15 (mkF m 32 #[rv a0, iv 1, iv 2, iv c2] [(.int (own_iso c2))]) _
            refine XS.ifNo X15.here hx rfl (hb hby d11_32) rfl (XT.i0_ne_f hc32_17) ?_
            refine XT.iconstV X15.here hx rfl (1 : Int32) (hb hby d11_35) (by decide) ?_
            refine XS.goto X15.here hx rfl (pc0 := 36) (pc' := 40) rfl (hb hby d11_36) (by decide) (by decide) ?_
            refine XS.istoreN X15.here hx rfl (hb hby d11_40) rfl (l' := #[rv a0, iv 1, iv 2, iv c2]) rfl ?_
            refine XT.iincV X15.here hx rfl (1 : Int32) (hb hby d11_41) (by decide) rfl (l' := #[rv a0, iv 1, iv 3, iv c2]) rfl ?_
            show oS p e below T15 (mkF m 44 #[rv a0, iv 1, iv 3, iv c2] []) _
            refine XS.goto X15.here hx rfl (pc0 := 44) (pc' := 4) rfl (hb hby d11_44) (by decide) (by decide) ?_
            refine XS.iloadN X15.here hx rfl (hb hby d11_4) rfl ?_
            refine XS.aloadN X15.here hx rfl (hb hby d11_5) rfl rfl ?_
            refine st18 _ ?_
            refine XS.icmpYes X18.here hx rfl (pc0 := 9) (pc' := 47) rfl (hb hby d11_9) rfl (XT.ii_ge_t (by decide)) (by decide) (by decide) ?_
            refine XS.iloadN X18.here hx rfl (hb hby d11_47) rfl ?_
            exact k)
          obtain ⟨fs, hr, hrun, hended, hW, hsame⟩ := X18.leave (v := some (.int 1)) (fun h => by rw [Bd.returns] at h; cases h)
          refine ⟨_, _, pre0 _ (S19 _ ?_), hrun, hended, _, _, rfl, ?_, ⟨_, rfl⟩, hW, hsame.mono (by decide) (by decide)⟩
          · exact retN X18 hx (t := .boolean) Bd.returns (by simp) (hb hby d11_48) hr
          · show QrmFv_3 Z a0 wC fm c0 c1 c2 h0 n0 _ T18.heap _
            rw [e18]
            exact ⟨by simp [own_fv, hc25_4, hc25_8, hc25_12, hc32_17], N18, rfl⟩
        · obtain ⟨_, T20, Lc20, X20, hQ20, st20⟩ := own_virtual (W := 1) (y := mN6) (z := mN6) X15 hx hZ hown (hw _ (own_w 51 rfl)) (hw _ (own_w 52 rfl)) (notFace_of_selects (args := #[]) (mvT hZ (hw _ (own_w 54 rfl)))) (hw _ (own_w 54 rfl)) (hw _ (own_w 53 rfl)) (hw _ (own_w 55 rfl)) (hw _ (own_w 2 rfl)) (by decide) (rmLenJ_3 l Z av0 hw [] a0 wC fm c0 c1 c2 h0 n0 Z0 hE hSt hS hw0) (by decide) (by decide) hE (g := (mkF m 6 #[rv a0, iv 0, iv 3, iv c2] [(.ref a0), (.int 3)])) rfl (by rw [hml]; rfl) (argsL := []) (rest := [(.int 3)]) (lenOf pd__I rfl) rfl (hb hby d11_6) rfl e15 (by decide : 0 + 0 ≤ _) (by decide : 0 + 0 ≤ _)
          obtain ⟨rfl, N20q, hh20⟩ := hQ20
          have N20 := Fr.app N15 N20q
          have e20 : T20.heap = h0 := hh20
          have S21 : ∀ t, oS p e below T20 (mkF m 48 #[rv a0, iv 0, iv 3, iv c2] [(.int 0)]) t → oS p e below s₁ (mkF m 0 #[rv a0, .unset, .unset, .unset] []) t := fun t k => S16 t (by
            show oS p e below T15 (mkF m 32 #[rv a0, iv 1, iv 2, iv c2] [(.int (own_iso c2))]) _
            refine XS.ifYes X15.here hx rfl (pc0 := 32) (pc' := 39) rfl (hb hby d11_32) rfl (XT.i0_ne_t hc32_17) (by decide) (by decide) ?_
            refine XT.iconstV X15.here hx rfl (0 : Int32) (hb hby d11_39) (by decide) ?_
            refine XS.istoreN X15.here hx rfl (hb hby d11_40) rfl (l' := #[rv a0, iv 0, iv 2, iv c2]) rfl ?_
            refine XT.iincV X15.here hx rfl (1 : Int32) (hb hby d11_41) (by decide) rfl (l' := #[rv a0, iv 0, iv 3, iv c2]) rfl ?_
            refine XS.goto X15.here hx rfl (pc0 := 44) (pc' := 4) rfl (hb hby d11_44) (by decide) (by decide) ?_
            show oS p e below T15 (mkF m 4 #[rv a0, iv 0, iv 3, iv c2] []) _
            refine XS.iloadN X15.here hx rfl (hb hby d11_4) rfl ?_
            refine XS.aloadN X15.here hx rfl (hb hby d11_5) rfl rfl ?_
            refine st20 _ ?_
            refine XS.icmpYes X20.here hx rfl (pc0 := 9) (pc' := 47) rfl (hb hby d11_9) rfl (XT.ii_ge_t (by decide)) (by decide) (by decide) ?_
            refine XS.iloadN X20.here hx rfl (hb hby d11_47) rfl ?_
            exact k)
          obtain ⟨fs, hr, hrun, hended, hW, hsame⟩ := X20.leave (v := some (.int 0)) (fun h => by rw [Bd.returns] at h; cases h)
          refine ⟨_, _, pre0 _ (S21 _ ?_), hrun, hended, _, _, rfl, ?_, ⟨_, rfl⟩, hW, hsame.mono (by decide) (by decide)⟩
          · exact retN X20 hx (t := .boolean) Bd.returns (by simp) (hb hby d11_48) hr
          · show QrmFv_3 Z a0 wC fm c0 c1 c2 h0 n0 _ T20.heap _
            rw [e20]
            exact ⟨by simp [own_fv, hc25_4, hc25_8, hc25_12, hc32_17], N20, rfl⟩
    · obtain ⟨_, T22, Lc22, X22, hQ22, st22⟩ := own_callS (W := 0) (y := mN1) X6 hx hZ hown (hw _ (own_w 82 rfl)) (hw _ (own_w 83 rfl)) (hw _ (own_w 84 rfl)) (hw _ (own_w 85 rfl)) (by decide) (rmIsoC l Z av0 hw [] c1 h0 n0 Z0 ) (by decide) (by decide) (g := (mkF m 29 #[rv a0, iv 1, iv 1, iv c1] [(.int c1)])) rfl (by rw [hml]; rfl) (argsL := [(.int c1)]) (rest := []) (lenOf pd__C_Z rfl) rfl (hb hby d11_29) rfl e6 (by decide : 0 + 0 ≤ _) (by decide : 0 + 0 ≤ _)
      obtain ⟨rfl, N22q, hh22⟩ := hQ22
      have N22 := Fr.app N6 N22q
      have e22 : T22.heap = h0 := hh22
      have S23 : ∀ t, oS p e below T22 (mkF m 32 #[rv a0, iv 1, iv 1, iv c1] [(.int (own_iso c1))]) t → oS p e below s₁ (mkF m 0 #[rv a0, .unset, .unset, .unset] []) t := fun t k => S7 t (by
        show oS p e below T6 (mkF m 25 #[rv a0, iv 1, iv 1, iv c1] [(.int 9), (.int c1)]) _
        refine XS.icmpNo X6.here hx rfl (hb hby d11_25) rfl (XT.ii_eq_f hc25_8) ?_
        refine XS.iloadN X6.here hx rfl (hb hby d11_28) rfl ?_
        refine st22 _ ?_
        exact k)
      by_cases hc32_24 : (own_iso c1) = (0 : Int32)
      · obtain ⟨_, T25, Lc25, X25, hQ25, st25⟩ := own_virtual (W := 1) (y := mN6) (z := mN6) X22 hx hZ hown (hw _ (own_w 51 rfl)) (hw _ (own_w 52 rfl)) (notFace_of_selects (args := #[]) (mvT hZ (hw _ (own_w 54 rfl)))) (hw _ (own_w 54 rfl)) (hw _ (own_w 53 rfl)) (hw _ (own_w 55 rfl)) (hw _ (own_w 2 rfl)) (by decide) (rmLenJ_3 l Z av0 hw [] a0 wC fm c0 c1 c2 h0 n0 Z0 hE hSt hS hw0) (by decide) (by decide) hE (g := (mkF m 6 #[rv a0, iv 1, iv 2, iv c1] [(.ref a0), (.int 2)])) rfl (by rw [hml]; rfl) (argsL := []) (rest := [(.int 2)]) (lenOf pd__I rfl) rfl (hb hby d11_6) rfl e22 (by decide : 0 + 0 ≤ _) (by decide : 0 + 0 ≤ _)
        obtain ⟨rfl, N25q, hh25⟩ := hQ25
        have N25 := Fr.app N22 N25q
        have e25 : T25.heap = h0 := hh25
        obtain ⟨_, T26, Lc26, X26, hQ26, st26⟩ := own_virtual (W := 0) (y := mN15) (z := mN15) X25 hx hZ hown (hw _ (own_w 61 rfl)) (hw _ (own_w 62 rfl)) (notFace_of_selects (args := #[]) (mvT hZ (hw _ (own_w 64 rfl)))) (hw _ (own_w 64 rfl)) (hw _ (own_w 63 rfl)) (hw _ (own_w 65 rfl)) (hw _ (own_w 2 rfl)) (by decide) (rmChJ_3_2 l Z av0 hw [] a0 wC fm c0 c1 c2 h0 n0 Z0 hE hSt hS hw0 hfm hF sA sH sL hg2) (by decide) (by decide) hE (g := (mkF m 18 #[rv a0, iv 1, iv 2, iv c1] [(.int 2), (.ref a0)])) rfl (by rw [hml]; rfl) (argsL := [(.int 2)]) (rest := []) (lenOf pd__I_C rfl) rfl (hb hby d11_18) rfl e25 (by decide : 0 + 0 ≤ _) (by decide : 0 + 0 ≤ _)
        obtain ⟨rfl, N26q, hh26⟩ := hQ26
        have N26 := Fr.app N25 N26q
        have e26 : T26.heap = h0 := hh26
        have S27 : ∀ t, oS p e below T26 (mkF m 25 #[rv a0, iv 1, iv 2, iv c2] [(.int 9), (.int c2)]) t → oS p e below s₁ (mkF m 0 #[rv a0, .unset, .unset, .unset] []) t := fun t k => S23 t (by
          show oS p e below T22 (mkF m 32 #[rv a0, iv 1, iv 1, iv c1] [(.int (own_iso c1))]) _
          refine XS.ifNo X22.here hx rfl (hb hby d11_32) rfl (XT.i0_ne_f hc32_24) ?_
          refine XT.iconstV X22.here hx rfl (1 : Int32) (hb hby d11_35) (by decide) ?_
          refine XS.goto X22.here hx rfl (pc0 := 36) (pc' := 40) rfl (hb hby d11_36) (by decide) (by decide) ?_
          refine XS.istoreN X22.here hx rfl (hb hby d11_40) rfl (l' := #[rv a0, iv 1, iv 1, iv c1]) rfl ?_
          refine XT.iincV X22.here hx rfl (1 : Int32) (hb hby d11_41) (by decide) rfl (l' := #[rv a0, iv 1, iv 2, iv c1]) rfl ?_
          refine XS.goto X22.here hx rfl (pc0 := 44) (pc' := 4) rfl (hb hby d11_44) (by decide) (by decide) ?_
          refine XS.iloadN X22.here hx rfl (hb hby d11_4) rfl ?_
          refine XS.aloadN X22.here hx rfl (hb hby d11_5) rfl rfl ?_
          show oS p e below T22 (mkF m 6 #[rv a0, iv 1, iv 2, iv c1] [(.ref a0), (.int 2)]) _
          refine st25 _ ?_
          refine XS.icmpNo X25.here hx rfl (hb hby d11_9) rfl (XT.ii_ge_f (by decide)) ?_
          refine XS.iloadN X25.here hx rfl (hb hby d11_12) rfl ?_
          refine XS.ifNo X25.here hx rfl (hb hby d11_13) rfl (XT.i0_eq_f (by decide)) ?_
          refine XS.aloadN X25.here hx rfl (hb hby d11_16) rfl rfl ?_
          refine XS.iloadN X25.here hx rfl (hb hby d11_17) rfl ?_
          refine st26 _ ?_
          refine XS.istoreN X26.here hx rfl (hb hby d11_21) rfl (l' := #[rv a0, iv 1, iv 2, iv c2]) rfl ?_
          refine XS.iloadN X26.here hx rfl (hb hby d11_22) rfl ?_
          refine XT.bipushV X26.here hx rfl (9 : Int32) (hb hby d11_23) (by decide) ?_
          exact k)
        by_cases hc25_28 : c2 = (9 : Int32)
        · obtain ⟨_, T29, Lc29, X29, hQ29, st29⟩ := own_virtual (W := 1) (y := mN6) (z := mN6) X26 hx hZ hown (hw _ (own_w 51 rfl)) (hw _ (own_w 52 rfl)) (notFace_of_selects (args := #[]) (mvT hZ (hw _ (own_w 54 rfl)))) (hw _ (own_w 54 rfl)) (hw _ (own_w 53 rfl)) (hw _ (own_w 55 rfl)) (hw _ (own_w 2 rfl)) (by decide) (rmLenJ_3 l Z av0 hw [] a0 wC fm c0 c1 c2 h0 n0 Z0 hE hSt hS hw0) (by decide) (by decide) hE (g := (mkF m 6 #[rv a0, iv 1, iv 3, iv c2] [(.ref a0), (.int 3)])) rfl (by rw [hml]; rfl) (argsL := []) (rest := [(.int 3)]) (lenOf pd__I rfl) rfl (hb hby d11_6) rfl e26 (by decide : 0 + 0 ≤ _) (by decide : 0 + 0 ≤ _)
          obtain ⟨rfl, N29q, hh29⟩ := hQ29
          have N29 := Fr.app N26 N29q
          have e29 : T29.heap = h0 := hh29
          have S30 : ∀ t, oS p e below T29 (mkF m 48 #[rv a0, iv 1, iv 3, iv c2] [(.int 1)]) t → oS p e below s₁ (mkF m 0 #[rv a0, .unset, .unset, .unset] []) t := fun t k => S27 t (by
            show oS p e below T26 (mkF m 25 #[rv a0, iv 1, iv 2, iv c2] [(.int 9), (.int c2)]) _
            refine XS.icmpYes X26.here hx rfl (pc0 := 25) (pc' := 35) rfl (hb hby d11_25) rfl (XT.ii_eq_t hc25_28) (by decide) (by decide) ?_
            refine XT.iconstV X26.here hx rfl (1 : Int32) (hb hby d11_35) (by decide) ?_
            refine XS.goto X26.here hx rfl (pc0 := 36) (pc' := 40) rfl (hb hby d11_36) (by decide) (by decide) ?_
            refine XS.istoreN X26.here hx rfl (hb hby d11_40) rfl (l' := #[rv a0, iv 1, iv 2, iv c2]) rfl ?_
            refine XT.iincV X26.here hx rfl (1 : Int32) (hb hby d11_41) (by decide) rfl (l' := #[rv a0, iv 1, iv 3, iv c2]) rfl ?_
            show oS p e below T26 (mkF m 44 #[rv a0, iv 1, iv 3, iv c2] []) _
            refine XS.goto X26.here hx rfl (pc0 := 44) (pc' := 4) rfl (hb hby d11_44) (by decide) (by decide) ?_
            refine XS.iloadN X26.here hx rfl (hb hby d11_4) rfl ?_
            refine XS.aloadN X26.here hx rfl (hb hby d11_5) rfl rfl ?_
            refine st29 _ ?_
            refine XS.icmpYes X29.here hx rfl (pc0 := 9) (pc' := 47) rfl (hb hby d11_9) rfl (XT.ii_ge_t (by decide)) (by decide) (by decide) ?_
            refine XS.iloadN X29.here hx rfl (hb hby d11_47) rfl ?_
            exact k)
          obtain ⟨fs, hr, hrun, hended, hW, hsame⟩ := X29.leave (v := some (.int 1)) (fun h => by rw [Bd.returns] at h; cases h)
          refine ⟨_, _, pre0 _ (S30 _ ?_), hrun, hended, _, _, rfl, ?_, ⟨_, rfl⟩, hW, hsame.mono (by decide) (by decide)⟩
          · exact retN X29 hx (t := .boolean) Bd.returns (by simp) (hb hby d11_48) hr
          · show QrmFv_3 Z a0 wC fm c0 c1 c2 h0 n0 _ T29.heap _
            rw [e29]
            exact ⟨by simp [own_fv, hc25_4, hc25_8, hc32_24, hc25_28], N29, rfl⟩
        · obtain ⟨_, T31, Lc31, X31, hQ31, st31⟩ := own_callS (W := 0) (y := mN1) X26 hx hZ hown (hw _ (own_w 82 rfl)) (hw _ (own_w 83 rfl)) (hw _ (own_w 84 rfl)) (hw _ (own_w 85 rfl)) (by decide) (rmIsoC l Z av0 hw [] c2 h0 n0 Z0 ) (by decide) (by decide) (g := (mkF m 29 #[rv a0, iv 1, iv 2, iv c2] [(.int c2)])) rfl (by rw [hml]; rfl) (argsL := [(.int c2)]) (rest := []) (lenOf pd__C_Z rfl) rfl (hb hby d11_29) rfl e26 (by decide : 0 + 0 ≤ _) (by decide : 0 + 0 ≤ _)
          obtain ⟨rfl, N31q, hh31⟩ := hQ31
          have N31 := Fr.app N26 N31q
          have e31 : T31.heap = h0 := hh31
          have S32 : ∀ t, oS p e below T31 (mkF m 32 #[rv a0, iv 1, iv 2, iv c2] [(.int (own_iso c2))]) t → oS p e below s₁ (mkF m 0 #[rv a0, .unset, .unset, .unset] []) t := fun t k => S27 t (by
            show oS p e below T26 (mkF m 25 #[rv a0, iv 1, iv 2, iv c2] [(.int 9), (.int c2)]) _
            refine XS.icmpNo X26.here hx rfl (hb hby d11_25) rfl (XT.ii_eq_f hc25_28) ?_
            refine XS.iloadN X26.here hx rfl (hb hby d11_28) rfl ?_
            refine st31 _ ?_
            exact k)
          by_cases hc32_33 : (own_iso c2) = (0 : Int32)
          · obtain ⟨_, T34, Lc34, X34, hQ34, st34⟩ := own_virtual (W := 1) (y := mN6) (z := mN6) X31 hx hZ hown (hw _ (own_w 51 rfl)) (hw _ (own_w 52 rfl)) (notFace_of_selects (args := #[]) (mvT hZ (hw _ (own_w 54 rfl)))) (hw _ (own_w 54 rfl)) (hw _ (own_w 53 rfl)) (hw _ (own_w 55 rfl)) (hw _ (own_w 2 rfl)) (by decide) (rmLenJ_3 l Z av0 hw [] a0 wC fm c0 c1 c2 h0 n0 Z0 hE hSt hS hw0) (by decide) (by decide) hE (g := (mkF m 6 #[rv a0, iv 1, iv 3, iv c2] [(.ref a0), (.int 3)])) rfl (by rw [hml]; rfl) (argsL := []) (rest := [(.int 3)]) (lenOf pd__I rfl) rfl (hb hby d11_6) rfl e31 (by decide : 0 + 0 ≤ _) (by decide : 0 + 0 ≤ _)
            obtain ⟨rfl, N34q, hh34⟩ := hQ34
            have N34 := Fr.app N31 N34q
            have e34 : T34.heap = h0 := hh34
            have S35 : ∀ t, oS p e below T34 (mkF m 48 #[rv a0, iv 1, iv 3, iv c2] [(.int 1)]) t → oS p e below s₁ (mkF m 0 #[rv a0, .unset, .unset, .unset] []) t := fun t k => S32 t (by
              show oS p e below T31 (mkF m 32 #[rv a0, iv 1, iv 2, iv c2] [(.int (own_iso c2))]) _
              refine XS.ifNo X31.here hx rfl (hb hby d11_32) rfl (XT.i0_ne_f hc32_33) ?_
              refine XT.iconstV X31.here hx rfl (1 : Int32) (hb hby d11_35) (by decide) ?_
              show oS p e below T31 (mkF m 36 #[rv a0, iv 1, iv 2, iv c2] [(.int 1)]) _
              refine XS.goto X31.here hx rfl (pc0 := 36) (pc' := 40) rfl (hb hby d11_36) (by decide) (by decide) ?_
              refine XS.istoreN X31.here hx rfl (hb hby d11_40) rfl (l' := #[rv a0, iv 1, iv 2, iv c2]) rfl ?_
              refine XT.iincV X31.here hx rfl (1 : Int32) (hb hby d11_41) (by decide) rfl (l' := #[rv a0, iv 1, iv 3, iv c2]) rfl ?_
              refine XS.goto X31.here hx rfl (pc0 := 44) (pc' := 4) rfl (hb hby d11_44) (by decide) (by decide) ?_
              refine XS.iloadN X31.here hx rfl (hb hby d11_4) rfl ?_
              refine XS.aloadN X31.here hx rfl (hb hby d11_5) rfl rfl ?_
              refine st34 _ ?_
              refine XS.icmpYes X34.here hx rfl (pc0 := 9) (pc' := 47) rfl (hb hby d11_9) rfl (XT.ii_ge_t (by decide)) (by decide) (by decide) ?_
              refine XS.iloadN X34.here hx rfl (hb hby d11_47) rfl ?_
              exact k)
            obtain ⟨fs, hr, hrun, hended, hW, hsame⟩ := X34.leave (v := some (.int 1)) (fun h => by rw [Bd.returns] at h; cases h)
            refine ⟨_, _, pre0 _ (S35 _ ?_), hrun, hended, _, _, rfl, ?_, ⟨_, rfl⟩, hW, hsame.mono (by decide) (by decide)⟩
            · exact retN X34 hx (t := .boolean) Bd.returns (by simp) (hb hby d11_48) hr
            · show QrmFv_3 Z a0 wC fm c0 c1 c2 h0 n0 _ T34.heap _
              rw [e34]
              exact ⟨by simp [own_fv, hc25_4, hc25_8, hc32_24, hc25_28, hc32_33], N34, rfl⟩
          · obtain ⟨_, T36, Lc36, X36, hQ36, st36⟩ := own_virtual (W := 1) (y := mN6) (z := mN6) X31 hx hZ hown (hw _ (own_w 51 rfl)) (hw _ (own_w 52 rfl)) (notFace_of_selects (args := #[]) (mvT hZ (hw _ (own_w 54 rfl)))) (hw _ (own_w 54 rfl)) (hw _ (own_w 53 rfl)) (hw _ (own_w 55 rfl)) (hw _ (own_w 2 rfl)) (by decide) (rmLenJ_3 l Z av0 hw [] a0 wC fm c0 c1 c2 h0 n0 Z0 hE hSt hS hw0) (by decide) (by decide) hE (g := (mkF m 6 #[rv a0, iv 0, iv 3, iv c2] [(.ref a0), (.int 3)])) rfl (by rw [hml]; rfl) (argsL := []) (rest := [(.int 3)]) (lenOf pd__I rfl) rfl (hb hby d11_6) rfl e31 (by decide : 0 + 0 ≤ _) (by decide : 0 + 0 ≤ _)
            obtain ⟨rfl, N36q, hh36⟩ := hQ36
            have N36 := Fr.app N31 N36q
            have e36 : T36.heap = h0 := hh36
            have S37 : ∀ t, oS p e below T36 (mkF m 48 #[rv a0, iv 0, iv 3, iv c2] [(.int 0)]) t → oS p e below s₁ (mkF m 0 #[rv a0, .unset, .unset, .unset] []) t := fun t k => S32 t (by
              show oS p e below T31 (mkF m 32 #[rv a0, iv 1, iv 2, iv c2] [(.int (own_iso c2))]) _
              refine XS.ifYes X31.here hx rfl (pc0 := 32) (pc' := 39) rfl (hb hby d11_32) rfl (XT.i0_ne_t hc32_33) (by decide) (by decide) ?_
              refine XT.iconstV X31.here hx rfl (0 : Int32) (hb hby d11_39) (by decide) ?_
              show oS p e below T31 (mkF m 40 #[rv a0, iv 1, iv 2, iv c2] [(.int 0)]) _
              refine XS.istoreN X31.here hx rfl (hb hby d11_40) rfl (l' := #[rv a0, iv 0, iv 2, iv c2]) rfl ?_
              refine XT.iincV X31.here hx rfl (1 : Int32) (hb hby d11_41) (by decide) rfl (l' := #[rv a0, iv 0, iv 3, iv c2]) rfl ?_
              refine XS.goto X31.here hx rfl (pc0 := 44) (pc' := 4) rfl (hb hby d11_44) (by decide) (by decide) ?_
              refine XS.iloadN X31.here hx rfl (hb hby d11_4) rfl ?_
              refine XS.aloadN X31.here hx rfl (hb hby d11_5) rfl rfl ?_
              refine st36 _ ?_
              refine XS.icmpYes X36.here hx rfl (pc0 := 9) (pc' := 47) rfl (hb hby d11_9) rfl (XT.ii_ge_t (by decide)) (by decide) (by decide) ?_
              refine XS.iloadN X36.here hx rfl (hb hby d11_47) rfl ?_
              exact k)
            obtain ⟨fs, hr, hrun, hended, hW, hsame⟩ := X36.leave (v := some (.int 0)) (fun h => by rw [Bd.returns] at h; cases h)
            refine ⟨_, _, pre0 _ (S37 _ ?_), hrun, hended, _, _, rfl, ?_, ⟨_, rfl⟩, hW, hsame.mono (by decide) (by decide)⟩
            · exact retN X36 hx (t := .boolean) Bd.returns (by simp) (hb hby d11_48) hr
            · show QrmFv_3 Z a0 wC fm c0 c1 c2 h0 n0 _ T36.heap _
              rw [e36]
              exact ⟨by simp [own_fv, hc25_4, hc25_8, hc32_24, hc25_28, hc32_33], N36, rfl⟩
      · obtain ⟨_, T38, Lc38, X38, hQ38, st38⟩ := own_virtual (W := 1) (y := mN6) (z := mN6) X22 hx hZ hown (hw _ (own_w 51 rfl)) (hw _ (own_w 52 rfl)) (notFace_of_selects (args := #[]) (mvT hZ (hw _ (own_w 54 rfl)))) (hw _ (own_w 54 rfl)) (hw _ (own_w 53 rfl)) (hw _ (own_w 55 rfl)) (hw _ (own_w 2 rfl)) (by decide) (rmLenJ_3 l Z av0 hw [] a0 wC fm c0 c1 c2 h0 n0 Z0 hE hSt hS hw0) (by decide) (by decide) hE (g := (mkF m 6 #[rv a0, iv 0, iv 2, iv c1] [(.ref a0), (.int 2)])) rfl (by rw [hml]; rfl) (argsL := []) (rest := [(.int 2)]) (lenOf pd__I rfl) rfl (hb hby d11_6) rfl e22 (by decide : 0 + 0 ≤ _) (by decide : 0 + 0 ≤ _)
        obtain ⟨rfl, N38q, hh38⟩ := hQ38
        have N38 := Fr.app N22 N38q
        have e38 : T38.heap = h0 := hh38
        have S39 : ∀ t, oS p e below T38 (mkF m 48 #[rv a0, iv 0, iv 2, iv c1] [(.int 0)]) t → oS p e below s₁ (mkF m 0 #[rv a0, .unset, .unset, .unset] []) t := fun t k => S23 t (by
          show oS p e below T22 (mkF m 32 #[rv a0, iv 1, iv 1, iv c1] [(.int (own_iso c1))]) _
          refine XS.ifYes X22.here hx rfl (pc0 := 32) (pc' := 39) rfl (hb hby d11_32) rfl (XT.i0_ne_t hc32_24) (by decide) (by decide) ?_
          refine XT.iconstV X22.here hx rfl (0 : Int32) (hb hby d11_39) (by decide) ?_
          refine XS.istoreN X22.here hx rfl (hb hby d11_40) rfl (l' := #[rv a0, iv 0, iv 1, iv c1]) rfl ?_
          refine XT.iincV X22.here hx rfl (1 : Int32) (hb hby d11_41) (by decide) rfl (l' := #[rv a0, iv 0, iv 2, iv c1]) rfl ?_
          refine XS.goto X22.here hx rfl (pc0 := 44) (pc' := 4) rfl (hb hby d11_44) (by decide) (by decide) ?_
          refine XS.iloadN X22.here hx rfl (hb hby d11_4) rfl ?_
          refine XS.aloadN X22.here hx rfl (hb hby d11_5) rfl rfl ?_
          refine st38 _ ?_
          show oS p e below T38 (mkF m 9 #[rv a0, iv 0, iv 2, iv c1] [(.int 3), (.int 2)]) _
          refine XS.icmpNo X38.here hx rfl (hb hby d11_9) rfl (XT.ii_ge_f (by decide)) ?_
          refine XS.iloadN X38.here hx rfl (hb hby d11_12) rfl ?_
          refine XS.ifYes X38.here hx rfl (pc0 := 13) (pc' := 47) rfl (hb hby d11_13) rfl (XT.i0_eq_t (by decide)) (by decide) (by decide) ?_
          refine XS.iloadN X38.here hx rfl (hb hby d11_47) rfl ?_
          exact k)
        obtain ⟨fs, hr, hrun, hended, hW, hsame⟩ := X38.leave (v := some (.int 0)) (fun h => by rw [Bd.returns] at h; cases h)
        refine ⟨_, _, pre0 _ (S39 _ ?_), hrun, hended, _, _, rfl, ?_, ⟨_, rfl⟩, hW, hsame.mono (by decide) (by decide)⟩
        · exact retN X38 hx (t := .boolean) Bd.returns (by simp) (hb hby d11_48) hr
        · show QrmFv_3 Z a0 wC fm c0 c1 c2 h0 n0 _ T38.heap _
          rw [e38]
          exact ⟨by simp [own_fv, hc25_4, hc25_8, hc32_24], N38, rfl⟩
  · obtain ⟨_, T40, Lc40, X40, hQ40, st40⟩ := own_callS (W := 0) (y := mN1) X2 hx hZ hown (hw _ (own_w 82 rfl)) (hw _ (own_w 83 rfl)) (hw _ (own_w 84 rfl)) (hw _ (own_w 85 rfl)) (by decide) (rmIsoC l Z av0 hw [] c0 h0 n0 Z0 ) (by decide) (by decide) (g := (mkF m 29 #[rv a0, iv 1, iv 0, iv c0] [(.int c0)])) rfl (by rw [hml]; rfl) (argsL := [(.int c0)]) (rest := []) (lenOf pd__C_Z rfl) rfl (hb hby d11_29) rfl e2 (by decide : 0 + 0 ≤ _) (by decide : 0 + 0 ≤ _)
    obtain ⟨rfl, N40q, hh40⟩ := hQ40
    have N40 := Fr.app N2 N40q
    have e40 : T40.heap = h0 := hh40
    have S41 : ∀ t, oS p e below T40 (mkF m 32 #[rv a0, iv 1, iv 0, iv c0] [(.int (own_iso c0))]) t → oS p e below s₁ (mkF m 0 #[rv a0, .unset, .unset, .unset] []) t := fun t k => S3 t (by
      show oS p e below T2 (mkF m 25 #[rv a0, iv 1, iv 0, iv c0] [(.int 9), (.int c0)]) _
      refine XS.icmpNo X2.here hx rfl (hb hby d11_25) rfl (XT.ii_eq_f hc25_4) ?_
      refine XS.iloadN X2.here hx rfl (hb hby d11_28) rfl ?_
      refine st40 _ ?_
      exact k)
    by_cases hc32_42 : (own_iso c0) = (0 : Int32)
    · obtain ⟨_, T43, Lc43, X43, hQ43, st43⟩ := own_virtual (W := 1) (y := mN6) (z := mN6) X40 hx hZ hown (hw _ (own_w 51 rfl)) (hw _ (own_w 52 rfl)) (notFace_of_selects (args := #[]) (mvT hZ (hw _ (own_w 54 rfl)))) (hw _ (own_w 54 rfl)) (hw _ (own_w 53 rfl)) (hw _ (own_w 55 rfl)) (hw _ (own_w 2 rfl)) (by decide) (rmLenJ_3 l Z av0 hw [] a0 wC fm c0 c1 c2 h0 n0 Z0 hE hSt hS hw0) (by decide) (by decide) hE (g := (mkF m 6 #[rv a0, iv 1, iv 1, iv c0] [(.ref a0), (.int 1)])) rfl (by rw [hml]; rfl) (argsL := []) (rest := [(.int 1)]) (lenOf pd__I rfl) rfl (hb hby d11_6) rfl e40 (by decide : 0 + 0 ≤ _) (by decide : 0 + 0 ≤ _)
      obtain ⟨rfl, N43q, hh43⟩ := hQ43
      have N43 := Fr.app N40 N43q
      have e43 : T43.heap = h0 := hh43
      obtain ⟨_, T44, Lc44, X44, hQ44, st44⟩ := own_virtual (W := 0) (y := mN15) (z := mN15) X43 hx hZ hown (hw _ (own_w 61 rfl)) (hw _ (own_w 62 rfl)) (notFace_of_selects (args := #[]) (mvT hZ (hw _ (own_w 64 rfl)))) (hw _ (own_w 64 rfl)) (hw _ (own_w 63 rfl)) (hw _ (own_w 65 rfl)) (hw _ (own_w 2 rfl)) (by decide) (rmChJ_3_1 l Z av0 hw [] a0 wC fm c0 c1 c2 h0 n0 Z0 hE hSt hS hw0 hfm hF sA sH sL hg1) (by decide) (by decide) hE (g := (mkF m 18 #[rv a0, iv 1, iv 1, iv c0] [(.int 1), (.ref a0)])) rfl (by rw [hml]; rfl) (argsL := [(.int 1)]) (rest := []) (lenOf pd__I_C rfl) rfl (hb hby d11_18) rfl e43 (by decide : 0 + 0 ≤ _) (by decide : 0 + 0 ≤ _)
      obtain ⟨rfl, N44q, hh44⟩ := hQ44
      have N44 := Fr.app N43 N44q
      have e44 : T44.heap = h0 := hh44
      have S45 : ∀ t, oS p e below T44 (mkF m 25 #[rv a0, iv 1, iv 1, iv c1] [(.int 9), (.int c1)]) t → oS p e below s₁ (mkF m 0 #[rv a0, .unset, .unset, .unset] []) t := fun t k => S41 t (by
        show oS p e below T40 (mkF m 32 #[rv a0, iv 1, iv 0, iv c0] [(.int (own_iso c0))]) _
        refine XS.ifNo X40.here hx rfl (hb hby d11_32) rfl (XT.i0_ne_f hc32_42) ?_
        refine XT.iconstV X40.here hx rfl (1 : Int32) (hb hby d11_35) (by decide) ?_
        refine XS.goto X40.here hx rfl (pc0 := 36) (pc' := 40) rfl (hb hby d11_36) (by decide) (by decide) ?_
        refine XS.istoreN X40.here hx rfl (hb hby d11_40) rfl (l' := #[rv a0, iv 1, iv 0, iv c0]) rfl ?_
        refine XT.iincV X40.here hx rfl (1 : Int32) (hb hby d11_41) (by decide) rfl (l' := #[rv a0, iv 1, iv 1, iv c0]) rfl ?_
        refine XS.goto X40.here hx rfl (pc0 := 44) (pc' := 4) rfl (hb hby d11_44) (by decide) (by decide) ?_
        refine XS.iloadN X40.here hx rfl (hb hby d11_4) rfl ?_
        refine XS.aloadN X40.here hx rfl (hb hby d11_5) rfl rfl ?_
        refine st43 _ ?_
        refine XS.icmpNo X43.here hx rfl (hb hby d11_9) rfl (XT.ii_ge_f (by decide)) ?_
        refine XS.iloadN X43.here hx rfl (hb hby d11_12) rfl ?_
        show oS p e below T43 (mkF m 13 #[rv a0, iv 1, iv 1, iv c0] [(.int 1)]) _
        refine XS.ifNo X43.here hx rfl (hb hby d11_13) rfl (XT.i0_eq_f (by decide)) ?_
        refine XS.aloadN X43.here hx rfl (hb hby d11_16) rfl rfl ?_
        refine XS.iloadN X43.here hx rfl (hb hby d11_17) rfl ?_
        refine st44 _ ?_
        refine XS.istoreN X44.here hx rfl (hb hby d11_21) rfl (l' := #[rv a0, iv 1, iv 1, iv c1]) rfl ?_
        refine XS.iloadN X44.here hx rfl (hb hby d11_22) rfl ?_
        refine XT.bipushV X44.here hx rfl (9 : Int32) (hb hby d11_23) (by decide) ?_
        exact k)
      by_cases hc25_46 : c1 = (9 : Int32)
      · obtain ⟨_, T47, Lc47, X47, hQ47, st47⟩ := own_virtual (W := 1) (y := mN6) (z := mN6) X44 hx hZ hown (hw _ (own_w 51 rfl)) (hw _ (own_w 52 rfl)) (notFace_of_selects (args := #[]) (mvT hZ (hw _ (own_w 54 rfl)))) (hw _ (own_w 54 rfl)) (hw _ (own_w 53 rfl)) (hw _ (own_w 55 rfl)) (hw _ (own_w 2 rfl)) (by decide) (rmLenJ_3 l Z av0 hw [] a0 wC fm c0 c1 c2 h0 n0 Z0 hE hSt hS hw0) (by decide) (by decide) hE (g := (mkF m 6 #[rv a0, iv 1, iv 2, iv c1] [(.ref a0), (.int 2)])) rfl (by rw [hml]; rfl) (argsL := []) (rest := [(.int 2)]) (lenOf pd__I rfl) rfl (hb hby d11_6) rfl e44 (by decide : 0 + 0 ≤ _) (by decide : 0 + 0 ≤ _)
        obtain ⟨rfl, N47q, hh47⟩ := hQ47
        have N47 := Fr.app N44 N47q
        have e47 : T47.heap = h0 := hh47
        obtain ⟨_, T48, Lc48, X48, hQ48, st48⟩ := own_virtual (W := 0) (y := mN15) (z := mN15) X47 hx hZ hown (hw _ (own_w 61 rfl)) (hw _ (own_w 62 rfl)) (notFace_of_selects (args := #[]) (mvT hZ (hw _ (own_w 64 rfl)))) (hw _ (own_w 64 rfl)) (hw _ (own_w 63 rfl)) (hw _ (own_w 65 rfl)) (hw _ (own_w 2 rfl)) (by decide) (rmChJ_3_2 l Z av0 hw [] a0 wC fm c0 c1 c2 h0 n0 Z0 hE hSt hS hw0 hfm hF sA sH sL hg2) (by decide) (by decide) hE (g := (mkF m 18 #[rv a0, iv 1, iv 2, iv c1] [(.int 2), (.ref a0)])) rfl (by rw [hml]; rfl) (argsL := [(.int 2)]) (rest := []) (lenOf pd__I_C rfl) rfl (hb hby d11_18) rfl e47 (by decide : 0 + 0 ≤ _) (by decide : 0 + 0 ≤ _)
        obtain ⟨rfl, N48q, hh48⟩ := hQ48
        have N48 := Fr.app N47 N48q
        have e48 : T48.heap = h0 := hh48
        have S49 : ∀ t, oS p e below T48 (mkF m 25 #[rv a0, iv 1, iv 2, iv c2] [(.int 9), (.int c2)]) t → oS p e below s₁ (mkF m 0 #[rv a0, .unset, .unset, .unset] []) t := fun t k => S45 t (by
          show oS p e below T44 (mkF m 25 #[rv a0, iv 1, iv 1, iv c1] [(.int 9), (.int c1)]) _
          refine XS.icmpYes X44.here hx rfl (pc0 := 25) (pc' := 35) rfl (hb hby d11_25) rfl (XT.ii_eq_t hc25_46) (by decide) (by decide) ?_
          refine XT.iconstV X44.here hx rfl (1 : Int32) (hb hby d11_35) (by decide) ?_
          refine XS.goto X44.here hx rfl (pc0 := 36) (pc' := 40) rfl (hb hby d11_36) (by decide) (by decide) ?_
          refine XS.istoreN X44.here hx rfl (hb hby d11_40) rfl (l' := #[rv a0, iv 1, iv 1, iv c1]) rfl ?_
          refine XT.iincV X44.here hx rfl (1 : Int32) (hb hby d11_41) (by decide) rfl (l' := #[rv a0, iv 1, iv 2, iv c1]) rfl ?_
          refine XS.goto X44.here hx rfl (pc0 := 44) (pc' := 4) rfl (hb hby d11_44) (by decide) (by decide) ?_
          refine XS.iloadN X44.here hx rfl (hb hby d11_4) rfl ?_
          refine XS.aloadN X44.here hx rfl (hb hby d11_5) rfl rfl ?_
          show oS p e below T44 (mkF m 6 #[rv a0, iv 1, iv 2, iv c1] [(.ref a0), (.int 2)]) _
          refine st47 _ ?_
          refine XS.icmpNo X47.here hx rfl (hb hby d11_9) rfl (XT.ii_ge_f (by decide)) ?_
          refine XS.iloadN X47.here hx rfl (hb hby d11_12) rfl ?_
          refine XS.ifNo X47.here hx rfl (hb hby d11_13) rfl (XT.i0_eq_f (by decide)) ?_
          refine XS.aloadN X47.here hx rfl (hb hby d11_16) rfl rfl ?_
          refine XS.iloadN X47.here hx rfl (hb hby d11_17) rfl ?_
          refine st48 _ ?_
          refine XS.istoreN X48.here hx rfl (hb hby d11_21) rfl (l' := #[rv a0, iv 1, iv 2, iv c2]) rfl ?_
          refine XS.iloadN X48.here hx rfl (hb hby d11_22) rfl ?_
          refine XT.bipushV X48.here hx rfl (9 : Int32) (hb hby d11_23) (by decide) ?_
          exact k)
        by_cases hc25_50 : c2 = (9 : Int32)
        · obtain ⟨_, T51, Lc51, X51, hQ51, st51⟩ := own_virtual (W := 1) (y := mN6) (z := mN6) X48 hx hZ hown (hw _ (own_w 51 rfl)) (hw _ (own_w 52 rfl)) (notFace_of_selects (args := #[]) (mvT hZ (hw _ (own_w 54 rfl)))) (hw _ (own_w 54 rfl)) (hw _ (own_w 53 rfl)) (hw _ (own_w 55 rfl)) (hw _ (own_w 2 rfl)) (by decide) (rmLenJ_3 l Z av0 hw [] a0 wC fm c0 c1 c2 h0 n0 Z0 hE hSt hS hw0) (by decide) (by decide) hE (g := (mkF m 6 #[rv a0, iv 1, iv 3, iv c2] [(.ref a0), (.int 3)])) rfl (by rw [hml]; rfl) (argsL := []) (rest := [(.int 3)]) (lenOf pd__I rfl) rfl (hb hby d11_6) rfl e48 (by decide : 0 + 0 ≤ _) (by decide : 0 + 0 ≤ _)
          obtain ⟨rfl, N51q, hh51⟩ := hQ51
          have N51 := Fr.app N48 N51q
          have e51 : T51.heap = h0 := hh51
          have S52 : ∀ t, oS p e below T51 (mkF m 48 #[rv a0, iv 1, iv 3, iv c2] [(.int 1)]) t → oS p e below s₁ (mkF m 0 #[rv a0, .unset, .unset, .unset] []) t := fun t k => S49 t (by
            show oS p e below T48 (mkF m 25 #[rv a0, iv 1, iv 2, iv c2] [(.int 9), (.int c2)]) _
            refine XS.icmpYes X48.here hx rfl (pc0 := 25) (pc' := 35) rfl (hb hby d11_25) rfl (XT.ii_eq_t hc25_50) (by decide) (by decide) ?_
            refine XT.iconstV X48.here hx rfl (1 : Int32) (hb hby d11_35) (by decide) ?_
            refine XS.goto X48.here hx rfl (pc0 := 36) (pc' := 40) rfl (hb hby d11_36) (by decide) (by decide) ?_
            refine XS.istoreN X48.here hx rfl (hb hby d11_40) rfl (l' := #[rv a0, iv 1, iv 2, iv c2]) rfl ?_
            refine XT.iincV X48.here hx rfl (1 : Int32) (hb hby d11_41) (by decide) rfl (l' := #[rv a0, iv 1, iv 3, iv c2]) rfl ?_
            show oS p e below T48 (mkF m 44 #[rv a0, iv 1, iv 3, iv c2] []) _
            refine XS.goto X48.here hx rfl (pc0 := 44) (pc' := 4) rfl (hb hby d11_44) (by decide) (by decide) ?_
            refine XS.iloadN X48.here hx rfl (hb hby d11_4) rfl ?_
            refine XS.aloadN X48.here hx rfl (hb hby d11_5) rfl rfl ?_
            refine st51 _ ?_
            refine XS.icmpYes X51.here hx rfl (pc0 := 9) (pc' := 47) rfl (hb hby d11_9) rfl (XT.ii_ge_t (by decide)) (by decide) (by decide) ?_
            refine XS.iloadN X51.here hx rfl (hb hby d11_47) rfl ?_
            exact k)
          obtain ⟨fs, hr, hrun, hended, hW, hsame⟩ := X51.leave (v := some (.int 1)) (fun h => by rw [Bd.returns] at h; cases h)
          refine ⟨_, _, pre0 _ (S52 _ ?_), hrun, hended, _, _, rfl, ?_, ⟨_, rfl⟩, hW, hsame.mono (by decide) (by decide)⟩
          · exact retN X51 hx (t := .boolean) Bd.returns (by simp) (hb hby d11_48) hr
          · show QrmFv_3 Z a0 wC fm c0 c1 c2 h0 n0 _ T51.heap _
            rw [e51]
            exact ⟨by simp [own_fv, hc25_4, hc32_42, hc25_46, hc25_50], N51, rfl⟩
        · obtain ⟨_, T53, Lc53, X53, hQ53, st53⟩ := own_callS (W := 0) (y := mN1) X48 hx hZ hown (hw _ (own_w 82 rfl)) (hw _ (own_w 83 rfl)) (hw _ (own_w 84 rfl)) (hw _ (own_w 85 rfl)) (by decide) (rmIsoC l Z av0 hw [] c2 h0 n0 Z0 ) (by decide) (by decide) (g := (mkF m 29 #[rv a0, iv 1, iv 2, iv c2] [(.int c2)])) rfl (by rw [hml]; rfl) (argsL := [(.int c2)]) (rest := []) (lenOf pd__C_Z rfl) rfl (hb hby d11_29) rfl e48 (by decide : 0 + 0 ≤ _) (by decide : 0 + 0 ≤ _)
          obtain ⟨rfl, N53q, hh53⟩ := hQ53
          have N53 := Fr.app N48 N53q
          have e53 : T53.heap = h0 := hh53
          have S54 : ∀ t, oS p e below T53 (mkF m 32 #[rv a0, iv 1, iv 2, iv c2] [(.int (own_iso c2))]) t → oS p e below s₁ (mkF m 0 #[rv a0, .unset, .unset, .unset] []) t := fun t k => S49 t (by
            show oS p e below T48 (mkF m 25 #[rv a0, iv 1, iv 2, iv c2] [(.int 9), (.int c2)]) _
            refine XS.icmpNo X48.here hx rfl (hb hby d11_25) rfl (XT.ii_eq_f hc25_50) ?_
            refine XS.iloadN X48.here hx rfl (hb hby d11_28) rfl ?_
            refine st53 _ ?_
            exact k)
          by_cases hc32_55 : (own_iso c2) = (0 : Int32)
          · obtain ⟨_, T56, Lc56, X56, hQ56, st56⟩ := own_virtual (W := 1) (y := mN6) (z := mN6) X53 hx hZ hown (hw _ (own_w 51 rfl)) (hw _ (own_w 52 rfl)) (notFace_of_selects (args := #[]) (mvT hZ (hw _ (own_w 54 rfl)))) (hw _ (own_w 54 rfl)) (hw _ (own_w 53 rfl)) (hw _ (own_w 55 rfl)) (hw _ (own_w 2 rfl)) (by decide) (rmLenJ_3 l Z av0 hw [] a0 wC fm c0 c1 c2 h0 n0 Z0 hE hSt hS hw0) (by decide) (by decide) hE (g := (mkF m 6 #[rv a0, iv 1, iv 3, iv c2] [(.ref a0), (.int 3)])) rfl (by rw [hml]; rfl) (argsL := []) (rest := [(.int 3)]) (lenOf pd__I rfl) rfl (hb hby d11_6) rfl e53 (by decide : 0 + 0 ≤ _) (by decide : 0 + 0 ≤ _)
            obtain ⟨rfl, N56q, hh56⟩ := hQ56
            have N56 := Fr.app N53 N56q
            have e56 : T56.heap = h0 := hh56
            have S57 : ∀ t, oS p e below T56 (mkF m 48 #[rv a0, iv 1, iv 3, iv c2] [(.int 1)]) t → oS p e below s₁ (mkF m 0 #[rv a0, .unset, .unset, .unset] []) t := fun t k => S54 t (by
              show oS p e below T53 (mkF m 32 #[rv a0, iv 1, iv 2, iv c2] [(.int (own_iso c2))]) _
              refine XS.ifNo X53.here hx rfl (hb hby d11_32) rfl (XT.i0_ne_f hc32_55) ?_
              refine XT.iconstV X53.here hx rfl (1 : Int32) (hb hby d11_35) (by decide) ?_
              show oS p e below T53 (mkF m 36 #[rv a0, iv 1, iv 2, iv c2] [(.int 1)]) _
              refine XS.goto X53.here hx rfl (pc0 := 36) (pc' := 40) rfl (hb hby d11_36) (by decide) (by decide) ?_
              refine XS.istoreN X53.here hx rfl (hb hby d11_40) rfl (l' := #[rv a0, iv 1, iv 2, iv c2]) rfl ?_
              refine XT.iincV X53.here hx rfl (1 : Int32) (hb hby d11_41) (by decide) rfl (l' := #[rv a0, iv 1, iv 3, iv c2]) rfl ?_
              refine XS.goto X53.here hx rfl (pc0 := 44) (pc' := 4) rfl (hb hby d11_44) (by decide) (by decide) ?_
              refine XS.iloadN X53.here hx rfl (hb hby d11_4) rfl ?_
              refine XS.aloadN X53.here hx rfl (hb hby d11_5) rfl rfl ?_
              refine st56 _ ?_
              refine XS.icmpYes X56.here hx rfl (pc0 := 9) (pc' := 47) rfl (hb hby d11_9) rfl (XT.ii_ge_t (by decide)) (by decide) (by decide) ?_
              refine XS.iloadN X56.here hx rfl (hb hby d11_47) rfl ?_
              exact k)
            obtain ⟨fs, hr, hrun, hended, hW, hsame⟩ := X56.leave (v := some (.int 1)) (fun h => by rw [Bd.returns] at h; cases h)
            refine ⟨_, _, pre0 _ (S57 _ ?_), hrun, hended, _, _, rfl, ?_, ⟨_, rfl⟩, hW, hsame.mono (by decide) (by decide)⟩
            · exact retN X56 hx (t := .boolean) Bd.returns (by simp) (hb hby d11_48) hr
            · show QrmFv_3 Z a0 wC fm c0 c1 c2 h0 n0 _ T56.heap _
              rw [e56]
              exact ⟨by simp [own_fv, hc25_4, hc32_42, hc25_46, hc25_50, hc32_55], N56, rfl⟩
          · obtain ⟨_, T58, Lc58, X58, hQ58, st58⟩ := own_virtual (W := 1) (y := mN6) (z := mN6) X53 hx hZ hown (hw _ (own_w 51 rfl)) (hw _ (own_w 52 rfl)) (notFace_of_selects (args := #[]) (mvT hZ (hw _ (own_w 54 rfl)))) (hw _ (own_w 54 rfl)) (hw _ (own_w 53 rfl)) (hw _ (own_w 55 rfl)) (hw _ (own_w 2 rfl)) (by decide) (rmLenJ_3 l Z av0 hw [] a0 wC fm c0 c1 c2 h0 n0 Z0 hE hSt hS hw0) (by decide) (by decide) hE (g := (mkF m 6 #[rv a0, iv 0, iv 3, iv c2] [(.ref a0), (.int 3)])) rfl (by rw [hml]; rfl) (argsL := []) (rest := [(.int 3)]) (lenOf pd__I rfl) rfl (hb hby d11_6) rfl e53 (by decide : 0 + 0 ≤ _) (by decide : 0 + 0 ≤ _)
            obtain ⟨rfl, N58q, hh58⟩ := hQ58
            have N58 := Fr.app N53 N58q
            have e58 : T58.heap = h0 := hh58
            have S59 : ∀ t, oS p e below T58 (mkF m 48 #[rv a0, iv 0, iv 3, iv c2] [(.int 0)]) t → oS p e below s₁ (mkF m 0 #[rv a0, .unset, .unset, .unset] []) t := fun t k => S54 t (by
              show oS p e below T53 (mkF m 32 #[rv a0, iv 1, iv 2, iv c2] [(.int (own_iso c2))]) _
              refine XS.ifYes X53.here hx rfl (pc0 := 32) (pc' := 39) rfl (hb hby d11_32) rfl (XT.i0_ne_t hc32_55) (by decide) (by decide) ?_
              refine XT.iconstV X53.here hx rfl (0 : Int32) (hb hby d11_39) (by decide) ?_
              show oS p e below T53 (mkF m 40 #[rv a0, iv 1, iv 2, iv c2] [(.int 0)]) _
              refine XS.istoreN X53.here hx rfl (hb hby d11_40) rfl (l' := #[rv a0, iv 0, iv 2, iv c2]) rfl ?_
              refine XT.iincV X53.here hx rfl (1 : Int32) (hb hby d11_41) (by decide) rfl (l' := #[rv a0, iv 0, iv 3, iv c2]) rfl ?_
              refine XS.goto X53.here hx rfl (pc0 := 44) (pc' := 4) rfl (hb hby d11_44) (by decide) (by decide) ?_
              refine XS.iloadN X53.here hx rfl (hb hby d11_4) rfl ?_
              refine XS.aloadN X53.here hx rfl (hb hby d11_5) rfl rfl ?_
              refine st58 _ ?_
              refine XS.icmpYes X58.here hx rfl (pc0 := 9) (pc' := 47) rfl (hb hby d11_9) rfl (XT.ii_ge_t (by decide)) (by decide) (by decide) ?_
              refine XS.iloadN X58.here hx rfl (hb hby d11_47) rfl ?_
              exact k)
            obtain ⟨fs, hr, hrun, hended, hW, hsame⟩ := X58.leave (v := some (.int 0)) (fun h => by rw [Bd.returns] at h; cases h)
            refine ⟨_, _, pre0 _ (S59 _ ?_), hrun, hended, _, _, rfl, ?_, ⟨_, rfl⟩, hW, hsame.mono (by decide) (by decide)⟩
            · exact retN X58 hx (t := .boolean) Bd.returns (by simp) (hb hby d11_48) hr
            · show QrmFv_3 Z a0 wC fm c0 c1 c2 h0 n0 _ T58.heap _
              rw [e58]
              exact ⟨by simp [own_fv, hc25_4, hc32_42, hc25_46, hc25_50, hc32_55], N58, rfl⟩
      · obtain ⟨_, T60, Lc60, X60, hQ60, st60⟩ := own_callS (W := 0) (y := mN1) X44 hx hZ hown (hw _ (own_w 82 rfl)) (hw _ (own_w 83 rfl)) (hw _ (own_w 84 rfl)) (hw _ (own_w 85 rfl)) (by decide) (rmIsoC l Z av0 hw [] c1 h0 n0 Z0 ) (by decide) (by decide) (g := (mkF m 29 #[rv a0, iv 1, iv 1, iv c1] [(.int c1)])) rfl (by rw [hml]; rfl) (argsL := [(.int c1)]) (rest := []) (lenOf pd__C_Z rfl) rfl (hb hby d11_29) rfl e44 (by decide : 0 + 0 ≤ _) (by decide : 0 + 0 ≤ _)
        obtain ⟨rfl, N60q, hh60⟩ := hQ60
        have N60 := Fr.app N44 N60q
        have e60 : T60.heap = h0 := hh60
        have S61 : ∀ t, oS p e below T60 (mkF m 32 #[rv a0, iv 1, iv 1, iv c1] [(.int (own_iso c1))]) t → oS p e below s₁ (mkF m 0 #[rv a0, .unset, .unset, .unset] []) t := fun t k => S45 t (by
          show oS p e below T44 (mkF m 25 #[rv a0, iv 1, iv 1, iv c1] [(.int 9), (.int c1)]) _
          refine XS.icmpNo X44.here hx rfl (hb hby d11_25) rfl (XT.ii_eq_f hc25_46) ?_
          refine XS.iloadN X44.here hx rfl (hb hby d11_28) rfl ?_
          refine st60 _ ?_
          exact k)
        by_cases hc32_62 : (own_iso c1) = (0 : Int32)
        · obtain ⟨_, T63, Lc63, X63, hQ63, st63⟩ := own_virtual (W := 1) (y := mN6) (z := mN6) X60 hx hZ hown (hw _ (own_w 51 rfl)) (hw _ (own_w 52 rfl)) (notFace_of_selects (args := #[]) (mvT hZ (hw _ (own_w 54 rfl)))) (hw _ (own_w 54 rfl)) (hw _ (own_w 53 rfl)) (hw _ (own_w 55 rfl)) (hw _ (own_w 2 rfl)) (by decide) (rmLenJ_3 l Z av0 hw [] a0 wC fm c0 c1 c2 h0 n0 Z0 hE hSt hS hw0) (by decide) (by decide) hE (g := (mkF m 6 #[rv a0, iv 1, iv 2, iv c1] [(.ref a0), (.int 2)])) rfl (by rw [hml]; rfl) (argsL := []) (rest := [(.int 2)]) (lenOf pd__I rfl) rfl (hb hby d11_6) rfl e60 (by decide : 0 + 0 ≤ _) (by decide : 0 + 0 ≤ _)
          obtain ⟨rfl, N63q, hh63⟩ := hQ63
          have N63 := Fr.app N60 N63q
          have e63 : T63.heap = h0 := hh63
          obtain ⟨_, T64, Lc64, X64, hQ64, st64⟩ := own_virtual (W := 0) (y := mN15) (z := mN15) X63 hx hZ hown (hw _ (own_w 61 rfl)) (hw _ (own_w 62 rfl)) (notFace_of_selects (args := #[]) (mvT hZ (hw _ (own_w 64 rfl)))) (hw _ (own_w 64 rfl)) (hw _ (own_w 63 rfl)) (hw _ (own_w 65 rfl)) (hw _ (own_w 2 rfl)) (by decide) (rmChJ_3_2 l Z av0 hw [] a0 wC fm c0 c1 c2 h0 n0 Z0 hE hSt hS hw0 hfm hF sA sH sL hg2) (by decide) (by decide) hE (g := (mkF m 18 #[rv a0, iv 1, iv 2, iv c1] [(.int 2), (.ref a0)])) rfl (by rw [hml]; rfl) (argsL := [(.int 2)]) (rest := []) (lenOf pd__I_C rfl) rfl (hb hby d11_18) rfl e63 (by decide : 0 + 0 ≤ _) (by decide : 0 + 0 ≤ _)
          obtain ⟨rfl, N64q, hh64⟩ := hQ64
          have N64 := Fr.app N63 N64q
          have e64 : T64.heap = h0 := hh64
          have S65 : ∀ t, oS p e below T64 (mkF m 25 #[rv a0, iv 1, iv 2, iv c2] [(.int 9), (.int c2)]) t → oS p e below s₁ (mkF m 0 #[rv a0, .unset, .unset, .unset] []) t := fun t k => S61 t (by
            show oS p e below T60 (mkF m 32 #[rv a0, iv 1, iv 1, iv c1] [(.int (own_iso c1))]) _
            refine XS.ifNo X60.here hx rfl (hb hby d11_32) rfl (XT.i0_ne_f hc32_62) ?_
            refine XT.iconstV X60.here hx rfl (1 : Int32) (hb hby d11_35) (by decide) ?_
            refine XS.goto X60.here hx rfl (pc0 := 36) (pc' := 40) rfl (hb hby d11_36) (by decide) (by decide) ?_
            refine XS.istoreN X60.here hx rfl (hb hby d11_40) rfl (l' := #[rv a0, iv 1, iv 1, iv c1]) rfl ?_
            refine XT.iincV X60.here hx rfl (1 : Int32) (hb hby d11_41) (by decide) rfl (l' := #[rv a0, iv 1, iv 2, iv c1]) rfl ?_
            show oS p e below T60 (mkF m 44 #[rv a0, iv 1, iv 2, iv c1] []) _
            refine XS.goto X60.here hx rfl (pc0 := 44) (pc' := 4) rfl (hb hby d11_44) (by decide) (by decide) ?_
            refine XS.iloadN X60.here hx rfl (hb hby d11_4) rfl ?_
            refine XS.aloadN X60.here hx rfl (hb hby d11_5) rfl rfl ?_
            refine st63 _ ?_
            refine XS.icmpNo X63.here hx rfl (hb hby d11_9) rfl (XT.ii_ge_f (by decide)) ?_
            refine XS.iloadN X63.here hx rfl (hb hby d11_12) rfl ?_
            refine XS.ifNo X63.here hx rfl (hb hby d11_13) rfl (XT.i0_eq_f (by decide)) ?_
            refine XS.aloadN X63.here hx rfl (hb hby d11_16) rfl rfl ?_
            refine XS.iloadN X63.here hx rfl (hb hby d11_17) rfl ?_
            refine st64 _ ?_
            refine XS.istoreN X64.here hx rfl (hb hby d11_21) rfl (l' := #[rv a0, iv 1, iv 2, iv c2]) rfl ?_
            refine XS.iloadN X64.here hx rfl (hb hby d11_22) rfl ?_
            refine XT.bipushV X64.here hx rfl (9 : Int32) (hb hby d11_23) (by decide) ?_
            exact k)
          by_cases hc25_66 : c2 = (9 : Int32)
          · obtain ⟨_, T67, Lc67, X67, hQ67, st67⟩ := own_virtual (W := 1) (y := mN6) (z := mN6) X64 hx hZ hown (hw _ (own_w 51 rfl)) (hw _ (own_w 52 rfl)) (notFace_of_selects (args := #[]) (mvT hZ (hw _ (own_w 54 rfl)))) (hw _ (own_w 54 rfl)) (hw _ (own_w 53 rfl)) (hw _ (own_w 55 rfl)) (hw _ (own_w 2 rfl)) (by decide) (rmLenJ_3 l Z av0 hw [] a0 wC fm c0 c1 c2 h0 n0 Z0 hE hSt hS hw0) (by decide) (by decide) hE (g := (mkF m 6 #[rv a0, iv 1, iv 3, iv c2] [(.ref a0), (.int 3)])) rfl (by rw [hml]; rfl) (argsL := []) (rest := [(.int 3)]) (lenOf pd__I rfl) rfl (hb hby d11_6) rfl e64 (by decide : 0 + 0 ≤ _) (by decide : 0 + 0 ≤ _)
            obtain ⟨rfl, N67q, hh67⟩ := hQ67
            have N67 := Fr.app N64 N67q
            have e67 : T67.heap = h0 := hh67
            have S68 : ∀ t, oS p e below T67 (mkF m 48 #[rv a0, iv 1, iv 3, iv c2] [(.int 1)]) t → oS p e below s₁ (mkF m 0 #[rv a0, .unset, .unset, .unset] []) t := fun t k => S65 t (by
              show oS p e below T64 (mkF m 25 #[rv a0, iv 1, iv 2, iv c2] [(.int 9), (.int c2)]) _
              refine XS.icmpYes X64.here hx rfl (pc0 := 25) (pc' := 35) rfl (hb hby d11_25) rfl (XT.ii_eq_t hc25_66) (by decide) (by decide) ?_
              refine XT.iconstV X64.here hx rfl (1 : Int32) (hb hby d11_35) (by decide) ?_
              show oS p e below T64 (mkF m 36 #[rv a0, iv 1, iv 2, iv c2] [(.int 1)]) _
              refine XS.goto X64.here hx rfl (pc0 := 36) (pc' := 40) rfl (hb hby d11_36) (by decide) (by decide) ?_
              refine XS.istoreN X64.here hx rfl (hb hby d11_40) rfl (l' := #[rv a0, iv 1, iv 2, iv c2]) rfl ?_
              refine XT.iincV X64.here hx rfl (1 : Int32) (hb hby d11_41) (by decide) rfl (l' := #[rv a0, iv 1, iv 3, iv c2]) rfl ?_
              refine XS.goto X64.here hx rfl (pc0 := 44) (pc' := 4) rfl (hb hby d11_44) (by decide) (by decide) ?_
              refine XS.iloadN X64.here hx rfl (hb hby d11_4) rfl ?_
              refine XS.aloadN X64.here hx rfl (hb hby d11_5) rfl rfl ?_
              refine st67 _ ?_
              refine XS.icmpYes X67.here hx rfl (pc0 := 9) (pc' := 47) rfl (hb hby d11_9) rfl (XT.ii_ge_t (by decide)) (by decide) (by decide) ?_
              refine XS.iloadN X67.here hx rfl (hb hby d11_47) rfl ?_
              exact k)
            obtain ⟨fs, hr, hrun, hended, hW, hsame⟩ := X67.leave (v := some (.int 1)) (fun h => by rw [Bd.returns] at h; cases h)
            refine ⟨_, _, pre0 _ (S68 _ ?_), hrun, hended, _, _, rfl, ?_, ⟨_, rfl⟩, hW, hsame.mono (by decide) (by decide)⟩
            · exact retN X67 hx (t := .boolean) Bd.returns (by simp) (hb hby d11_48) hr
            · show QrmFv_3 Z a0 wC fm c0 c1 c2 h0 n0 _ T67.heap _
              rw [e67]
              exact ⟨by simp [own_fv, hc25_4, hc32_42, hc25_46, hc32_62, hc25_66], N67, rfl⟩
          · obtain ⟨_, T69, Lc69, X69, hQ69, st69⟩ := own_callS (W := 0) (y := mN1) X64 hx hZ hown (hw _ (own_w 82 rfl)) (hw _ (own_w 83 rfl)) (hw _ (own_w 84 rfl)) (hw _ (own_w 85 rfl)) (by decide) (rmIsoC l Z av0 hw [] c2 h0 n0 Z0 ) (by decide) (by decide) (g := (mkF m 29 #[rv a0, iv 1, iv 2, iv c2] [(.int c2)])) rfl (by rw [hml]; rfl) (argsL := [(.int c2)]) (rest := []) (lenOf pd__C_Z rfl) rfl (hb hby d11_29) rfl e64 (by decide : 0 + 0 ≤ _) (by decide : 0 + 0 ≤ _)
            obtain ⟨rfl, N69q, hh69⟩ := hQ69
            have N69 := Fr.app N64 N69q
            have e69 : T69.heap = h0 := hh69
            have S70 : ∀ t, oS p e below T69 (mkF m 32 #[rv a0, iv 1, iv 2, iv c2] [(.int (own_iso c2))]) t → oS p e below s₁ (mkF m 0 #[rv a0, .unset, .unset, .unset] []) t := fun t k => S65 t (by
              show oS p e below T64 (mkF m 25 #[rv a0, iv 1, iv 2, iv c2] [(.int 9), (.int c2)]) _
              refine XS.icmpNo X64.here hx rfl (hb hby d11_25) rfl (XT.ii_eq_f hc25_66) ?_
              refine XS.iloadN X64.here hx rfl (hb hby d11_28) rfl ?_
              show oS p e below T64 (mkF m 29 #[rv a0, iv 1, iv 2, iv c2] [(.int c2)]) _
              refine st69 _ ?_
              exact k)
            by_cases hc32_71 : (own_iso c2) = (0 : Int32)
            · obtain ⟨_, T72, Lc72, X72, hQ72, st72⟩ := own_virtual (W := 1) (y := mN6) (z := mN6) X69 hx hZ hown (hw _ (own_w 51 rfl)) (hw _ (own_w 52 rfl)) (notFace_of_selects (args := #[]) (mvT hZ (hw _ (own_w 54 rfl)))) (hw _ (own_w 54 rfl)) (hw _ (own_w 53 rfl)) (hw _ (own_w 55 rfl)) (hw _ (own_w 2 rfl)) (by decide) (rmLenJ_3 l Z av0 hw [] a0 wC fm c0 c1 c2 h0 n0 Z0 hE hSt hS hw0) (by decide) (by decide) hE (g := (mkF m 6 #[rv a0, iv 1, iv 3, iv c2] [(.ref a0), (.int 3)])) rfl (by rw [hml]; rfl) (argsL := []) (rest := [(.int 3)]) (lenOf pd__I rfl) rfl (hb hby d11_6) rfl e69 (by decide : 0 + 0 ≤ _) (by decide : 0 + 0 ≤ _)
              obtain ⟨rfl, N72q, hh72⟩ := hQ72
              have N72 := Fr.app N69 N72q
              have e72 : T72.heap = h0 := hh72
              have S73 : ∀ t, oS p e below T72 (mkF m 48 #[rv a0, iv 1, iv 3, iv c2] [(.int 1)]) t → oS p e below s₁ (mkF m 0 #[rv a0, .unset, .unset, .unset] []) t := fun t k => S70 t (by
                show oS p e below T69 (mkF m 32 #[rv a0, iv 1, iv 2, iv c2] [(.int (own_iso c2))]) _
                refine XS.ifNo X69.here hx rfl (hb hby d11_32) rfl (XT.i0_ne_f hc32_71) ?_
                refine XT.iconstV X69.here hx rfl (1 : Int32) (hb hby d11_35) (by decide) ?_
                refine XS.goto X69.here hx rfl (pc0 := 36) (pc' := 40) rfl (hb hby d11_36) (by decide) (by decide) ?_
                refine XS.istoreN X69.here hx rfl (hb hby d11_40) rfl (l' := #[rv a0, iv 1, iv 2, iv c2]) rfl ?_
                refine XT.iincV X69.here hx rfl (1 : Int32) (hb hby d11_41) (by decide) rfl (l' := #[rv a0, iv 1, iv 3, iv c2]) rfl ?_
                refine XS.goto X69.here hx rfl (pc0 := 44) (pc' := 4) rfl (hb hby d11_44) (by decide) (by decide) ?_
                refine XS.iloadN X69.here hx rfl (hb hby d11_4) rfl ?_
                refine XS.aloadN X69.here hx rfl (hb hby d11_5) rfl rfl ?_
                refine st72 _ ?_
                refine XS.icmpYes X72.here hx rfl (pc0 := 9) (pc' := 47) rfl (hb hby d11_9) rfl (XT.ii_ge_t (by decide)) (by decide) (by decide) ?_
                refine XS.iloadN X72.here hx rfl (hb hby d11_47) rfl ?_
                exact k)
              obtain ⟨fs, hr, hrun, hended, hW, hsame⟩ := X72.leave (v := some (.int 1)) (fun h => by rw [Bd.returns] at h; cases h)
              refine ⟨_, _, pre0 _ (S73 _ ?_), hrun, hended, _, _, rfl, ?_, ⟨_, rfl⟩, hW, hsame.mono (by decide) (by decide)⟩
              · exact retN X72 hx (t := .boolean) Bd.returns (by simp) (hb hby d11_48) hr
              · show QrmFv_3 Z a0 wC fm c0 c1 c2 h0 n0 _ T72.heap _
                rw [e72]
                exact ⟨by simp [own_fv, hc25_4, hc32_42, hc25_46, hc32_62, hc25_66, hc32_71], N72, rfl⟩
            · obtain ⟨_, T74, Lc74, X74, hQ74, st74⟩ := own_virtual (W := 1) (y := mN6) (z := mN6) X69 hx hZ hown (hw _ (own_w 51 rfl)) (hw _ (own_w 52 rfl)) (notFace_of_selects (args := #[]) (mvT hZ (hw _ (own_w 54 rfl)))) (hw _ (own_w 54 rfl)) (hw _ (own_w 53 rfl)) (hw _ (own_w 55 rfl)) (hw _ (own_w 2 rfl)) (by decide) (rmLenJ_3 l Z av0 hw [] a0 wC fm c0 c1 c2 h0 n0 Z0 hE hSt hS hw0) (by decide) (by decide) hE (g := (mkF m 6 #[rv a0, iv 0, iv 3, iv c2] [(.ref a0), (.int 3)])) rfl (by rw [hml]; rfl) (argsL := []) (rest := [(.int 3)]) (lenOf pd__I rfl) rfl (hb hby d11_6) rfl e69 (by decide : 0 + 0 ≤ _) (by decide : 0 + 0 ≤ _)
              obtain ⟨rfl, N74q, hh74⟩ := hQ74
              have N74 := Fr.app N69 N74q
              have e74 : T74.heap = h0 := hh74
              have S75 : ∀ t, oS p e below T74 (mkF m 48 #[rv a0, iv 0, iv 3, iv c2] [(.int 0)]) t → oS p e below s₁ (mkF m 0 #[rv a0, .unset, .unset, .unset] []) t := fun t k => S70 t (by
                show oS p e below T69 (mkF m 32 #[rv a0, iv 1, iv 2, iv c2] [(.int (own_iso c2))]) _
                refine XS.ifYes X69.here hx rfl (pc0 := 32) (pc' := 39) rfl (hb hby d11_32) rfl (XT.i0_ne_t hc32_71) (by decide) (by decide) ?_
                refine XT.iconstV X69.here hx rfl (0 : Int32) (hb hby d11_39) (by decide) ?_
                refine XS.istoreN X69.here hx rfl (hb hby d11_40) rfl (l' := #[rv a0, iv 0, iv 2, iv c2]) rfl ?_
                refine XT.iincV X69.here hx rfl (1 : Int32) (hb hby d11_41) (by decide) rfl (l' := #[rv a0, iv 0, iv 3, iv c2]) rfl ?_
                refine XS.goto X69.here hx rfl (pc0 := 44) (pc' := 4) rfl (hb hby d11_44) (by decide) (by decide) ?_
                refine XS.iloadN X69.here hx rfl (hb hby d11_4) rfl ?_
                refine XS.aloadN X69.here hx rfl (hb hby d11_5) rfl rfl ?_
                refine st74 _ ?_
                refine XS.icmpYes X74.here hx rfl (pc0 := 9) (pc' := 47) rfl (hb hby d11_9) rfl (XT.ii_ge_t (by decide)) (by decide) (by decide) ?_
                refine XS.iloadN X74.here hx rfl (hb hby d11_47) rfl ?_
                exact k)
              obtain ⟨fs, hr, hrun, hended, hW, hsame⟩ := X74.leave (v := some (.int 0)) (fun h => by rw [Bd.returns] at h; cases h)
              refine ⟨_, _, pre0 _ (S75 _ ?_), hrun, hended, _, _, rfl, ?_, ⟨_, rfl⟩, hW, hsame.mono (by decide) (by decide)⟩
              · exact retN X74 hx (t := .boolean) Bd.returns (by simp) (hb hby d11_48) hr
              · show QrmFv_3 Z a0 wC fm c0 c1 c2 h0 n0 _ T74.heap _
                rw [e74]
                exact ⟨by simp [own_fv, hc25_4, hc32_42, hc25_46, hc32_62, hc25_66, hc32_71], N74, rfl⟩
        · obtain ⟨_, T76, Lc76, X76, hQ76, st76⟩ := own_virtual (W := 1) (y := mN6) (z := mN6) X60 hx hZ hown (hw _ (own_w 51 rfl)) (hw _ (own_w 52 rfl)) (notFace_of_selects (args := #[]) (mvT hZ (hw _ (own_w 54 rfl)))) (hw _ (own_w 54 rfl)) (hw _ (own_w 53 rfl)) (hw _ (own_w 55 rfl)) (hw _ (own_w 2 rfl)) (by decide) (rmLenJ_3 l Z av0 hw [] a0 wC fm c0 c1 c2 h0 n0 Z0 hE hSt hS hw0) (by decide) (by decide) hE (g := (mkF m 6 #[rv a0, iv 0, iv 2, iv c1] [(.ref a0), (.int 2)])) rfl (by rw [hml]; rfl) (argsL := []) (rest := [(.int 2)]) (lenOf pd__I rfl) rfl (hb hby d11_6) rfl e60 (by decide : 0 + 0 ≤ _) (by decide : 0 + 0 ≤ _)
          obtain ⟨rfl, N76q, hh76⟩ := hQ76
          have N76 := Fr.app N60 N76q
          have e76 : T76.heap = h0 := hh76
          have S77 : ∀ t, oS p e below T76 (mkF m 48 #[rv a0, iv 0, iv 2, iv c1] [(.int 0)]) t → oS p e below s₁ (mkF m 0 #[rv a0, .unset, .unset, .unset] []) t := fun t k => S61 t (by
            show oS p e below T60 (mkF m 32 #[rv a0, iv 1, iv 1, iv c1] [(.int (own_iso c1))]) _
            refine XS.ifYes X60.here hx rfl (pc0 := 32) (pc' := 39) rfl (hb hby d11_32) rfl (XT.i0_ne_t hc32_62) (by decide) (by decide) ?_
            refine XT.iconstV X60.here hx rfl (0 : Int32) (hb hby d11_39) (by decide) ?_
            refine XS.istoreN X60.here hx rfl (hb hby d11_40) rfl (l' := #[rv a0, iv 0, iv 1, iv c1]) rfl ?_
            refine XT.iincV X60.here hx rfl (1 : Int32) (hb hby d11_41) (by decide) rfl (l' := #[rv a0, iv 0, iv 2, iv c1]) rfl ?_
            refine XS.goto X60.here hx rfl (pc0 := 44) (pc' := 4) rfl (hb hby d11_44) (by decide) (by decide) ?_
            show oS p e below T60 (mkF m 4 #[rv a0, iv 0, iv 2, iv c1] []) _
            refine XS.iloadN X60.here hx rfl (hb hby d11_4) rfl ?_
            refine XS.aloadN X60.here hx rfl (hb hby d11_5) rfl rfl ?_
            refine st76 _ ?_
            refine XS.icmpNo X76.here hx rfl (hb hby d11_9) rfl (XT.ii_ge_f (by decide)) ?_
            refine XS.iloadN X76.here hx rfl (hb hby d11_12) rfl ?_
            refine XS.ifYes X76.here hx rfl (pc0 := 13) (pc' := 47) rfl (hb hby d11_13) rfl (XT.i0_eq_t (by decide)) (by decide) (by decide) ?_
            refine XS.iloadN X76.here hx rfl (hb hby d11_47) rfl ?_
            exact k)
          obtain ⟨fs, hr, hrun, hended, hW, hsame⟩ := X76.leave (v := some (.int 0)) (fun h => by rw [Bd.returns] at h; cases h)
          refine ⟨_, _, pre0 _ (S77 _ ?_), hrun, hended, _, _, rfl, ?_, ⟨_, rfl⟩, hW, hsame.mono (by decide) (by decide)⟩
          · exact retN X76 hx (t := .boolean) Bd.returns (by simp) (hb hby d11_48) hr
          · show QrmFv_3 Z a0 wC fm c0 c1 c2 h0 n0 _ T76.heap _
            rw [e76]
            exact ⟨by simp [own_fv, hc25_4, hc32_42, hc25_46, hc32_62], N76, rfl⟩
    · obtain ⟨_, T78, Lc78, X78, hQ78, st78⟩ := own_virtual (W := 1) (y := mN6) (z := mN6) X40 hx hZ hown (hw _ (own_w 51 rfl)) (hw _ (own_w 52 rfl)) (notFace_of_selects (args := #[]) (mvT hZ (hw _ (own_w 54 rfl)))) (hw _ (own_w 54 rfl)) (hw _ (own_w 53 rfl)) (hw _ (own_w 55 rfl)) (hw _ (own_w 2 rfl)) (by decide) (rmLenJ_3 l Z av0 hw [] a0 wC fm c0 c1 c2 h0 n0 Z0 hE hSt hS hw0) (by decide) (by decide) hE (g := (mkF m 6 #[rv a0, iv 0, iv 1, iv c0] [(.ref a0), (.int 1)])) rfl (by rw [hml]; rfl) (argsL := []) (rest := [(.int 1)]) (lenOf pd__I rfl) rfl (hb hby d11_6) rfl e40 (by decide : 0 + 0 ≤ _) (by decide : 0 + 0 ≤ _)
      obtain ⟨rfl, N78q, hh78⟩ := hQ78
      have N78 := Fr.app N40 N78q
      have e78 : T78.heap = h0 := hh78
      have S79 : ∀ t, oS p e below T78 (mkF m 48 #[rv a0, iv 0, iv 1, iv c0] [(.int 0)]) t → oS p e below s₁ (mkF m 0 #[rv a0, .unset, .unset, .unset] []) t := fun t k => S41 t (by
        show oS p e below T40 (mkF m 32 #[rv a0, iv 1, iv 0, iv c0] [(.int (own_iso c0))]) _
        refine XS.ifYes X40.here hx rfl (pc0 := 32) (pc' := 39) rfl (hb hby d11_32) rfl (XT.i0_ne_t hc32_42) (by decide) (by decide) ?_
        refine XT.iconstV X40.here hx rfl (0 : Int32) (hb hby d11_39) (by decide) ?_
        refine XS.istoreN X40.here hx rfl (hb hby d11_40) rfl (l' := #[rv a0, iv 0, iv 0, iv c0]) rfl ?_
        refine XT.iincV X40.here hx rfl (1 : Int32) (hb hby d11_41) (by decide) rfl (l' := #[rv a0, iv 0, iv 1, iv c0]) rfl ?_
        refine XS.goto X40.here hx rfl (pc0 := 44) (pc' := 4) rfl (hb hby d11_44) (by decide) (by decide) ?_
        refine XS.iloadN X40.here hx rfl (hb hby d11_4) rfl ?_
        refine XS.aloadN X40.here hx rfl (hb hby d11_5) rfl rfl ?_
        refine st78 _ ?_
        refine XS.icmpNo X78.here hx rfl (hb hby d11_9) rfl (XT.ii_ge_f (by decide)) ?_
        refine XS.iloadN X78.here hx rfl (hb hby d11_12) rfl ?_
        refine XS.ifYes X78.here hx rfl (pc0 := 13) (pc' := 47) rfl (hb hby d11_13) rfl (XT.i0_eq_t (by decide)) (by decide) (by decide) ?_
        show oS p e below T78 (mkF m 47 #[rv a0, iv 0, iv 1, iv c0] []) _
        refine XS.iloadN X78.here hx rfl (hb hby d11_47) rfl ?_
        exact k)
      obtain ⟨fs, hr, hrun, hended, hW, hsame⟩ := X78.leave (v := some (.int 0)) (fun h => by rw [Bd.returns] at h; cases h)
      refine ⟨_, _, pre0 _ (S79 _ ?_), hrun, hended, _, _, rfl, ?_, ⟨_, rfl⟩, hW, hsame.mono (by decide) (by decide)⟩
      · exact retN X78 hx (t := .boolean) Bd.returns (by simp) (hb hby d11_48) hr
      · show QrmFv_3 Z a0 wC fm c0 c1 c2 h0 n0 _ T78.heap _
        rw [e78]
        exact ⟨by simp [own_fv, hc25_4, hc32_42], N78, rfl⟩
def own_ce (c : Int32) : Int32 := if 255 < c then 0 else 1
theorem own_ce0 {c : Int32} (h : own_ce c = 0) : (255 : Int32) < c := by
  unfold own_ce at h; split at h
  · assumption
  · cases h
theorem own_ce1 {c : Int32} (h : ¬ own_ce c = 0) : ¬ (255 : Int32) < c := by
  unfold own_ce at h; split at h
  · exact absurd rfl h
  · assumption
theorem d5_0 : decode jdk_43_method_3_code 0 = .ok (.iload_n 0, 1) := by decide +kernel
theorem d5_1 : decode jdk_43_method_3_code 1 = .ok (.sipush 255, 3) := by decide +kernel
theorem d5_4 : decode jdk_43_method_3_code 4 = .ok (.if_icmp .gt 7, 3) := by decide +kernel
theorem d5_7 : decode jdk_43_method_3_code 7 = .ok (.iconst 1, 1) := by decide +kernel
theorem d5_8 : decode jdk_43_method_3_code 8 = .ok (.goto 4, 3) := by decide +kernel
theorem d5_11 : decode jdk_43_method_3_code 11 = .ok (.iconst 0, 1) := by decide +kernel
theorem d5_12 : decode jdk_43_method_3_code 12 = .ok (.ireturn, 1) := by decide +kernel
def QrmCe (Z : State) (p0 : Int32) (h0 : Heap) (n0 : Nat) (v : Option Value) (h : Heap) (L : List Loc) : Prop := v = some (.int (own_ce p0)) ∧ Fr n0 L ∧ h = h0
set_option maxRecDepth 65536 in
set_option maxHeartbeats 40000000 in
theorem rmCe (l : Launch) (Z : State) (av0 : Array Value) (hw : ∀ d ∈ tables_1, d.before av0 Z = true) (ws : List Jvm.Cond) (p0 : Int32) (h0 : Heap) (n0 : Nat) (Z0 : n0 ≤ h0.size)  :
    own_Met l mN17 jdk_43_method_3_code 1 (some .boolean) ws ({ frames := 0, cells := 0, slots := 0, locals := 0 } : Room) #[(.int p0)] Z h0 (QrmCe Z p0 h0 n0) := by
  refine MetFree.of_bodySF (plainFor_of_name pn_StringLatin1) hisR ?_
  intro p e s m args below meth c s₁ Bd hml0 hP hK
  obtain ⟨rfl, hZ, hh⟩ := hP
  have hml : c.maxLocals = 1 := hml0
  obtain ⟨hx, hby, hown, hnm, X0, e0⟩ := own_start Bd hml0 hh
  have N0 := Fr.nil n0
  have pre0 : ∀ t, oS p e below s₁ (mkF m 0 #[iv p0] []) t → Steps p.tables e below (s₁.setTop (entryFrame m #[(.int p0)] 1)) t := fun t k => castTop (by first | (simp [entryFrame, mkF, argsToLocals, Value.category]; done) | rfl) k
  have S1 : ∀ t, oS p e below s₁ (mkF m 4 #[iv p0] [(.int 255), (.int p0)]) t → oS p e below s₁ (mkF m 0 #[iv p0] []) t := fun t k => id (by
    show oS p e below s₁ (mkF m 0 #[iv p0] []) _
    refine XS.iloadN X0.here hx rfl (hb hby d5_0) rfl ?_
    refine XT.sipushV X0.here hx rfl (255 : Int32) (hb hby d5_1) (by decide) ?_
    exact k)
  by_cases hc4_2 : (255 : Int32) < p0
  · have S3 : ∀ t, oS p e below s₁ (mkF m 12 #[iv p0] [(.int 0)]) t → oS p e below s₁ (mkF m 0 #[iv p0] []) t := fun t k => S1 t (by
      show oS p e below s₁ (mkF m 4 #[iv p0] [(.int 255), (.int p0)]) _
      refine XS.icmpYes X0.here hx rfl (pc0 := 4) (pc' := 11) rfl (hb hby d5_4) rfl (XT.ii_gt_t hc4_2) (by decide) (by decide) ?_
      refine XT.iconstV X0.here hx rfl (0 : Int32) (hb hby d5_11) (by decide) ?_
      exact k)
    obtain ⟨fs, hr, hrun, hended, hW, hsame⟩ := X0.leave (v := some (.int 0)) (fun h => by rw [Bd.returns] at h; cases h)
    refine ⟨_, _, pre0 _ (S3 _ ?_), hrun, hended, _, _, rfl, ?_, ⟨_, rfl⟩, hW, hsame.mono (by decide) (by decide)⟩
    · exact retN X0 hx (t := .boolean) Bd.returns (by simp) (hb hby d5_12) hr
    · show QrmCe Z p0 h0 n0 _ s₁.heap _
      rw [e0]
      exact ⟨by simp [own_ce, hc4_2], N0, rfl⟩
  · have S4 : ∀ t, oS p e below s₁ (mkF m 12 #[iv p0] [(.int 1)]) t → oS p e below s₁ (mkF m 0 #[iv p0] []) t := fun t k => S1 t (by
      show oS p e below s₁ (mkF m 4 #[iv p0] [(.int 255), (.int p0)]) _
      refine XS.icmpNo X0.here hx rfl (hb hby d5_4) rfl (XT.ii_gt_f hc4_2) ?_
      refine XT.iconstV X0.here hx rfl (1 : Int32) (hb hby d5_7) (by decide) ?_
      refine XS.goto X0.here hx rfl (pc0 := 8) (pc' := 12) rfl (hb hby d5_8) (by decide) (by decide) ?_
      exact k)
    obtain ⟨fs, hr, hrun, hended, hW, hsame⟩ := X0.leave (v := some (.int 1)) (fun h => by rw [Bd.returns] at h; cases h)
    refine ⟨_, _, pre0 _ (S4 _ ?_), hrun, hended, _, _, rfl, ?_, ⟨_, rfl⟩, hW, hsame.mono (by decide) (by decide)⟩
    · exact retN X0 hx (t := .boolean) Bd.returns (by simp) (hb hby d5_12) hr
    · show QrmCe Z p0 h0 n0 _ s₁.heap _
      rw [e0]
      exact ⟨by simp [own_ce, hc4_2], N0, rfl⟩
theorem d6_0 : decode jdk_43_method_46_code 0 = .ok (.iconst 1, 1) := by decide +kernel
theorem d6_1 : decode jdk_43_method_46_code 1 = .ok (.newarray .byte, 2) := by decide +kernel
theorem d6_3 : decode jdk_43_method_46_code 3 = .ok (.dup, 1) := by decide +kernel
theorem d6_4 : decode jdk_43_method_46_code 4 = .ok (.iconst 0, 1) := by decide +kernel
theorem d6_5 : decode jdk_43_method_46_code 5 = .ok (.iload_n 0, 1) := by decide +kernel
theorem d6_6 : decode jdk_43_method_46_code 6 = .ok (.i2b, 1) := by decide +kernel
theorem d6_7 : decode jdk_43_method_46_code 7 = .ok (.bastore, 1) := by decide +kernel
theorem d6_8 : decode jdk_43_method_46_code 8 = .ok (.areturn, 1) := by decide +kernel
def QrmLtb (Z : State) (c0 : Int32) (h0 : Heap) (n0 : Nat) (v : Option Value) (h : Heap) (L : List Loc) : Prop := ∃ (b : Addr) (k : ClassId), v = some (.ref b) ∧ Fr n0 L ∧ h0.size ≤ b ∧ Keep h0 h [] ∧ Arv Z h b k .byte (1 : Int32) [(.int (own_b c0))] (.int (0 : Int32))
set_option maxRecDepth 65536 in
set_option maxHeartbeats 40000000 in
theorem rmLtb (l : Launch) (Z : State) (av0 : Array Value) (hw : ∀ d ∈ tables_1, d.before av0 Z = true) (ws : List Jvm.Cond) (c0 : Int32) (h0 : Heap) (n0 : Nat) (Z0 : n0 ≤ h0.size)  :
    own_Met l mN18 jdk_43_method_46_code 1 (some (.array .byte)) ws ({ frames := 0, cells := 1, slots := 1, locals := 0 } : Room) #[(.int c0)] Z h0 (QrmLtb Z c0 h0 n0) := by
  refine MetFree.of_bodySF (plainFor_of_name pn_StringLatin1) hisR ?_
  intro p e s m args below meth c s₁ Bd hml0 hP hK
  obtain ⟨rfl, hZ, hh⟩ := hP
  have hml : c.maxLocals = 1 := hml0
  obtain ⟨hx, hby, hown, hnm, X0, e0⟩ := own_start Bd hml0 hh
  have N0 := Fr.nil n0
  have pre0 : ∀ t, oS p e below s₁ (mkF m 0 #[iv c0] []) t → Steps p.tables e below (s₁.setTop (entryFrame m #[(.int c0)] 1)) t := fun t k => castTop (by first | (simp [entryFrame, mkF, argsToLocals, Value.category]; done) | rfl) k
  obtain ⟨T1, h1, k1, X1, e1, E1, A1, st1⟩ := newP X0 hx hZ (hw _ (own_w 15 rfl)) e0 (g := (mkF m 1 #[iv c0] [(.int 1)])) rfl (hb hby d6_1) rfl (by decide) (cap := 1) (by decide) (by decide) (by decide) (by decide)
  obtain ⟨b1, g1⟩ : ∃ z, z = h0.size := ⟨_, rfl⟩
  rw [← g1] at A1 st1
  have ge_b1 : n0 ≤ b1 := Nat.le_trans Z0 (Nat.le_of_eq g1.symm)
  have sz_b1 : h0.size ≤ b1 := Nat.le_of_eq g1.symm
  have Z1 : n0 ≤ h1.size := Nat.le_trans Z0 E1.1
  have K1 : Keep h0 h1 [] := (Keep.refl h0 []).ext E1
  have V1 : Arv Z h1 b1 k1 .byte (1 : Int32) [(.int (0 : Int32))] (.int (0 : Int32)) := (Arv.new A1 (by decide)).pad (pad_rep [] (.int (0 : Int32)) 1)
  obtain ⟨cl2, Ar2, qk2, Sz2, Ng2, Hs2, Gs2⟩ := id V1
  have hin2 : ¬ ((0 : Int32) < 0 ∨ cl2.slots.size ≤ ((0 : Int32)).toNatClampNeg) := inb_of Sz2 ⟨by decide, by decide⟩
  obtain ⟨T3, h3, X3, e3, W3, st3⟩ := stB X1 hx hZ e1 Ar2 (j := (0 : Int32)) hin2 (g := (mkF m 7 #[iv c0] [(.int (c0).toInt8.toInt32), (.int 0), (.ref b1), (.ref b1)])) rfl rfl (hb hby d6_7)
  have N3 := Fr.snoc X3 N0 ge_b1
  have Z3 : n0 ≤ h3.size := Nat.le_trans Z1 (Nat.le_of_eq W3.size.symm)
  have K3 : Keep h0 h3 [] := K1.wr W3 (Or.inr sz_b1)
  have V3 : Arv Z h3 b1 k1 .byte (1 : Int32) [(.int (nar .byte (c0).toInt8.toInt32))] (.int (0 : Int32)) := Arv.set Ar2 qk2 Sz2 Ng2 Hs2 Gs2 (fits_nar_byte _) W3 0 rfl (Nat.le_of_ble_eq_true rfl)
  have S4 : ∀ t, oS p e below T3 (mkF m 8 #[iv c0] [(.ref b1)]) t → oS p e below s₁ (mkF m 0 #[iv c0] []) t := fun t k => id (by
    show oS p e below s₁ (mkF m 0 #[iv c0] []) _
    refine XT.iconstV X0.here hx rfl (1 : Int32) (hb hby d6_0) (by decide) ?_
    refine st1 _ ?_
    refine XS.dup X1.here hx rfl (hb hby d6_3) rfl rfl ?_
    refine XT.iconstV X1.here hx rfl (0 : Int32) (hb hby d6_4) (by decide) ?_
    refine XS.iloadN X1.here hx rfl (hb hby d6_5) rfl ?_
    refine XT.i2b X1.here hx rfl (hb hby d6_6) rfl ?_
    refine st3 _ ?_
    exact k)
  obtain ⟨fs, hr, hrun, hended, hW, hsame⟩ := X3.leave (v := some (.ref b1)) (fun h => by rw [Bd.returns] at h; cases h)
  refine ⟨_, _, pre0 _ (S4 _ ?_), hrun, hended, _, _, rfl, ?_, ⟨_, rfl⟩, hW, hsame.mono (by decide) (by decide)⟩
  · jvm_step X3.here [X3.here.top, hx, (hb hby d6_8), X3.method', Bd.returns, Value.isRef, FieldType.isReference]
    first | (intro acts; rw [hr _ acts rfl rfl rfl]) | rw [hr _ _ rfl rfl rfl]
    exact Steps.refl _
  · show QrmLtb Z c0 h0 n0 _ T3.heap _
    rw [e3]
    exact ⟨_, _, rfl, N3, sz_b1, K3, V3⟩
theorem d23_0 : decode jdk_52_method_4_code 0 = .ok (.getstatic 44, 3) := by decide +kernel
theorem d23_3 : decode jdk_52_method_4_code 3 = .ok (.ifCond .ne 25, 3) := by decide +kernel
theorem d23_28 : decode jdk_52_method_4_code 28 = .ok (.iload_n 1, 1) := by decide +kernel
theorem d23_29 : decode jdk_52_method_4_code 29 = .ok (.iconst 1, 1) := by decide +kernel
theorem d23_30 : decode jdk_52_method_4_code 30 = .ok (.ishl, 1) := by decide +kernel
theorem d23_31 : decode jdk_52_method_4_code 31 = .ok (.istore_n 1, 1) := by decide +kernel
theorem d23_32 : decode jdk_52_method_4_code 32 = .ok (.aload_n 0, 1) := by decide +kernel
theorem d23_33 : decode jdk_52_method_4_code 33 = .ok (.iload_n 1, 1) := by decide +kernel
theorem d23_34 : decode jdk_52_method_4_code 34 = .ok (.iinc 1 1, 3) := by decide +kernel
theorem d23_37 : decode jdk_52_method_4_code 37 = .ok (.iload_n 2, 1) := by decide +kernel
theorem d23_38 : decode jdk_52_method_4_code 38 = .ok (.getstatic 59, 3) := by decide +kernel
theorem d23_41 : decode jdk_52_method_4_code 41 = .ok (.ishr, 1) := by decide +kernel
theorem d23_42 : decode jdk_52_method_4_code 42 = .ok (.i2b, 1) := by decide +kernel
theorem d23_43 : decode jdk_52_method_4_code 43 = .ok (.bastore, 1) := by decide +kernel
theorem d23_44 : decode jdk_52_method_4_code 44 = .ok (.aload_n 0, 1) := by decide +kernel
theorem d23_45 : decode jdk_52_method_4_code 45 = .ok (.iload_n 1, 1) := by decide +kernel
theorem d23_46 : decode jdk_52_method_4_code 46 = .ok (.iload_n 2, 1) := by decide +kernel
theorem d23_47 : decode jdk_52_method_4_code 47 = .ok (.getstatic 63, 3) := by decide +kernel
theorem d23_50 : decode jdk_52_method_4_code 50 = .ok (.ishr, 1) := by decide +kernel
theorem d23_51 : decode jdk_52_method_4_code 51 = .ok (.i2b, 1) := by decide +kernel
theorem d23_52 : decode jdk_52_method_4_code 52 = .ok (.bastore, 1) := by decide +kernel
theorem d23_53 : decode jdk_52_method_4_code 53 = .ok (.return_, 1) := by decide +kernel
def QrmPut_1_0 (Z : State) (a0 : Addr) (ka : ClassId) (cc : Int32) (h0 : Heap) (n0 : Nat) (v : Option Value) (h : Heap) (L : List Loc) : Prop := v = none ∧ Fr n0 L ∧ Keep h0 h [a0] ∧ Arv Z h a0 ka .byte (2 : Int32) [(.int (own_lo cc)), (.int (own_hi cc))] (.int (0 : Int32))
set_option maxRecDepth 65536 in
set_option maxHeartbeats 40000000 in
theorem rmPut_1_0 (l : Launch) (Z : State) (av0 : Array Value) (hw : ∀ d ∈ tables_1, d.before av0 Z = true) (ws : List Jvm.Cond) (a0 : Addr) (ka : ClassId) (cc : Int32) (h0 : Heap) (n0 : Nat) (Z0 : n0 ≤ h0.size) (hA : Arv Z h0 a0 ka .byte (2 : Int32) [(.int (0 : Int32)), (.int (0 : Int32))] (.int (0 : Int32))) (hge : n0 ≤ a0) (sA : Sta Z h0 "java/lang/StringUTF16" "$assertionsDisabled" "Z" (.int (1 : Int32))) (sH : Sta Z h0 "java/lang/StringUTF16" "HI_BYTE_SHIFT" "I" (.int (0 : Int32))) (sL : Sta Z h0 "java/lang/StringUTF16" "LO_BYTE_SHIFT" "I" (.int (8 : Int32))) :
    own_Met l mN19 jdk_52_method_4_code 3 none ws ({ frames := 0, cells := 0, slots := 0, locals := 0 } : Room) #[(.ref a0), (.int 0), (.int cc)] Z h0 (QrmPut_1_0 Z a0 ka cc h0 n0) := by
  refine MetFree.of_bodySF (plainFor_of_name pn_StringUTF16) hisR ?_
  intro p e s m args below meth c s₁ Bd hml0 hP hK
  obtain ⟨rfl, hZ, hh⟩ := hP
  have hml : c.maxLocals = 3 := hml0
  obtain ⟨hx, hby, hown, hnm, X0, e0⟩ := own_start Bd hml0 hh
  have N0 := Fr.nil n0
  have pre0 : ∀ t, oS p e below s₁ (mkF m 0 #[rv a0, iv 0, iv cc] []) t → Steps p.tables e below (s₁.setTop (entryFrame m #[(.ref a0), (.int 0), (.int cc)] 3)) t := fun t k => castTop (by first | (simp [entryFrame, mkF, argsToLocals, Value.category]; done) | rfl) k
  obtain ⟨T1, X1, e1, st1⟩ := getS2 X0 hx hZ hown (host := "") (Or.inl (hw _ (own_w 99 rfl))) Via.refl e0 sA (g := (mkF m 0 #[rv a0, iv 0, iv cc] [])) rfl (hb hby d23_0)
  obtain ⟨T2, X2, e2, st2⟩ := getS2 X1 hx hZ hown (host := "") (Or.inl (hw _ (own_w 100 rfl))) Via.refl e1 sH (g := (mkF m 38 #[rv a0, iv 1, iv cc] [(.int cc), (.int 0), (.ref a0)])) rfl (hb hby d23_38)
  obtain ⟨cl3, Ar3, qk3, Sz3, Ng3, Hs3, Gs3⟩ := id hA
  have hin3 : ¬ ((0 : Int32) < 0 ∨ cl3.slots.size ≤ ((0 : Int32)).toNatClampNeg) := inb_of Sz3 ⟨by decide, by decide⟩
  obtain ⟨T4, h4, X4, e4, W4, st4⟩ := stB X2 hx hZ e2 Ar3 (j := (0 : Int32)) hin3 (g := (mkF m 43 #[rv a0, iv 1, iv cc] [(.int ((cc >>> ((0 : Int32) &&& 31))).toInt8.toInt32), (.int 0), (.ref a0)])) rfl rfl (hb hby d23_43)
  have N4 := Fr.snoc X4 N0 hge
  have Z4 : n0 ≤ h4.size := Nat.le_trans Z0 (Nat.le_of_eq W4.size.symm)
  have K4 : Keep h0 h4 [a0] := (Keep.refl h0 [a0]).wr W4 (Or.inl (List.mem_of_getElem? (i := 0) rfl))
  have V4 : Arv Z h4 a0 ka .byte (2 : Int32) [(.int (nar .byte ((cc >>> ((0 : Int32) &&& 31))).toInt8.toInt32)), (.int (0 : Int32))] (.int (0 : Int32)) := Arv.set Ar3 qk3 Sz3 Ng3 Hs3 Gs3 (fits_nar_byte _) W4 0 rfl (Nat.le_of_ble_eq_true rfl)
  have f5 := (sL.wr W4)
  obtain ⟨T6, X6, e6, st6⟩ := getS2 X4 hx hZ hown (host := "") (Or.inl (hw _ (own_w 101 rfl))) Via.refl e4 f5 (g := (mkF m 47 #[rv a0, iv 1, iv cc] [(.int cc), (.int 1), (.ref a0)])) rfl (hb hby d23_47)
  obtain ⟨cl7, Ar7, qk7, Sz7, Ng7, Hs7, Gs7⟩ := id V4
  have hin7 : ¬ ((1 : Int32) < 0 ∨ cl7.slots.size ≤ ((1 : Int32)).toNatClampNeg) := inb_of Sz7 ⟨by decide, by decide⟩
  obtain ⟨T8, h8, X8, e8, W8, st8⟩ := stB X6 hx hZ e6 Ar7 (j := (1 : Int32)) hin7 (g := (mkF m 52 #[rv a0, iv 1, iv cc] [(.int ((cc >>> ((8 : Int32) &&& 31))).toInt8.toInt32), (.int 1), (.ref a0)])) rfl rfl (hb hby d23_52)
  have N8 := Fr.snoc X8 N4 hge
  have Z8 : n0 ≤ h8.size := Nat.le_trans Z4 (Nat.le_of_eq W8.size.symm)
  have K8 : Keep h0 h8 [a0] := K4.wr W8 (Or.inl (List.mem_of_getElem? (i := 0) rfl))
  have V8 : Arv Z h8 a0 ka .byte (2 : Int32) [(.int (nar .byte ((cc >>> ((0 : Int32) &&& 31))).toInt8.toInt32)), (.int (nar .byte ((cc >>> ((8 : Int32) &&& 31))).toInt8.toInt32))] (.int (0 : Int32)) := Arv.set Ar7 qk7 Sz7 Ng7 Hs7 Gs7 (fits_nar_byte _) W8 1 rfl (Nat.le_of_ble_eq_true rfl)
  have S9 : ∀ t, oS p e below T8 (mkF m 53 #[rv a0, iv 1, iv cc] []) t → oS p e below s₁ (mkF m 0 #[rv a0, iv 0, iv cc] []) t := fun t k => id (by
    show oS p e below s₁ (mkF m 0 #[rv a0, iv 0, iv cc] []) _
    refine st1 _ ?_
    refine XS.ifYes X1.here hx rfl (pc0 := 3) (pc' := 28) rfl (hb hby d23_3) rfl (XT.i0_ne_t (by decide)) (by decide) (by decide) ?_
    refine XS.iloadN X1.here hx rfl (hb hby d23_28) rfl ?_
    refine XT.iconstV X1.here hx rfl (1 : Int32) (hb hby d23_29) (by decide) ?_
    refine XT.ishl X1.here hx rfl (hb hby d23_30) rfl ?_
    refine XS.istoreN X1.here hx rfl (hb hby d23_31) rfl (l' := #[rv a0, iv 0, iv cc]) rfl ?_
    refine XS.aloadN X1.here hx rfl (hb hby d23_32) rfl rfl ?_
    refine XS.iloadN X1.here hx rfl (hb hby d23_33) rfl ?_
    refine XT.iincV X1.here hx rfl (1 : Int32) (hb hby d23_34) (by decide) rfl (l' := #[rv a0, iv 1, iv cc]) rfl ?_
    refine XS.iloadN X1.here hx rfl (hb hby d23_37) rfl ?_
    refine st2 _ ?_
    refine XT.ishr X2.here hx rfl (hb hby d23_41) rfl ?_
    refine XT.i2b X2.here hx rfl (hb hby d23_42) rfl ?_
    refine st4 _ ?_
    refine XS.aloadN X4.here hx rfl (hb hby d23_44) rfl rfl ?_
    show oS p e below T4 (mkF m 45 #[rv a0, iv 1, iv cc] [(.ref a0)]) _
    refine XS.iloadN X4.here hx rfl (hb hby d23_45) rfl ?_
    refine XS.iloadN X4.here hx rfl (hb hby d23_46) rfl ?_
    refine st6 _ ?_
    refine XT.ishr X6.here hx rfl (hb hby d23_50) rfl ?_
    refine XT.i2b X6.here hx rfl (hb hby d23_51) rfl ?_
    refine st8 _ ?_
    exact k)
  obtain ⟨fs, hr, hrun, hended, hW, hsame⟩ := X8.leave (v := none) (fun _ => rfl)
  refine ⟨_, _, pre0 _ (S9 _ ?_), hrun, hended, _, _, rfl, ?_, ⟨_, rfl⟩, hW, hsame.mono (by decide) (by decide)⟩
  · exact X8.returnOut hx Bd.returns (hb hby d23_53) hr
  · show QrmPut_1_0 Z a0 ka cc h0 n0 _ T8.heap _
    rw [e8]
    exact ⟨rfl, N8, K8, V8⟩
theorem d22_0 : decode jdk_52_method_24_code 0 = .ok (.iconst 2, 1) := by decide +kernel
theorem d22_1 : decode jdk_52_method_24_code 1 = .ok (.newarray .byte, 2) := by decide +kernel
theorem d22_3 : decode jdk_52_method_24_code 3 = .ok (.astore_n 1, 1) := by decide +kernel
theorem d22_4 : decode jdk_52_method_24_code 4 = .ok (.aload_n 1, 1) := by decide +kernel
theorem d22_5 : decode jdk_52_method_24_code 5 = .ok (.iconst 0, 1) := by decide +kernel
theorem d22_6 : decode jdk_52_method_24_code 6 = .ok (.iload_n 0, 1) := by decide +kernel
theorem d22_7 : decode jdk_52_method_24_code 7 = .ok (.invokestatic 111, 3) := by decide +kernel
theorem d22_10 : decode jdk_52_method_24_code 10 = .ok (.aload_n 1, 1) := by decide +kernel
theorem d22_11 : decode jdk_52_method_24_code 11 = .ok (.areturn, 1) := by decide +kernel
theorem pd__BII_V : parseMethodDescriptor "([BII)V" = some ⟨[(.array .byte), .int, .int], none⟩ := by decide +kernel
def QrmUtb (Z : State) (c0 : Int32) (h0 : Heap) (n0 : Nat) (v : Option Value) (h : Heap) (L : List Loc) : Prop := ∃ (b : Addr) (k : ClassId), v = some (.ref b) ∧ Fr n0 L ∧ h0.size ≤ b ∧ Keep h0 h [] ∧ Arv Z h b k .byte (2 : Int32) [(.int (own_lo c0)), (.int (own_hi c0))] (.int (0 : Int32))
set_option maxRecDepth 65536 in
set_option maxHeartbeats 40000000 in
theorem rmUtb (l : Launch) (Z : State) (av0 : Array Value) (hw : ∀ d ∈ tables_1, d.before av0 Z = true) (ws : List Jvm.Cond) (c0 : Int32) (h0 : Heap) (n0 : Nat) (Z0 : n0 ≤ h0.size) (sA : Sta Z h0 "java/lang/StringUTF16" "$assertionsDisabled" "Z" (.int (1 : Int32))) (sH : Sta Z h0 "java/lang/StringUTF16" "HI_BYTE_SHIFT" "I" (.int (0 : Int32))) (sL : Sta Z h0 "java/lang/StringUTF16" "LO_BYTE_SHIFT" "I" (.int (8 : Int32))) :
    own_Met l mN20 jdk_52_method_24_code 2 (some (.array .byte)) ws ({ frames := 1, cells := 1, slots := 2, locals := 14 } : Room) #[(.int c0)] Z h0 (QrmUtb Z c0 h0 n0) := by
  refine MetFree.of_bodySF (plainFor_of_name pn_StringUTF16) hisR ?_
  intro p e s m args below meth c s₁ Bd hml0 hP hK
  obtain ⟨rfl, hZ, hh⟩ := hP
  have hml : c.maxLocals = 2 := hml0
  obtain ⟨hx, hby, hown, hnm, X0, e0⟩ := own_start Bd hml0 hh
  have N0 := Fr.nil n0
  have pre0 : ∀ t, oS p e below s₁ (mkF m 0 #[iv c0, .unset] []) t → Steps p.tables e below (s₁.setTop (entryFrame m #[(.int c0)] 2)) t := fun t k => castTop (by first | (simp [entryFrame, mkF, argsToLocals, Value.category]; done) | rfl) k
  obtain ⟨T1, h1, k1, X1, e1, E1, A1, st1⟩ := newP X0 hx hZ (hw _ (own_w 15 rfl)) e0 (g := (mkF m 1 #[iv c0, .unset] [(.int 2)])) rfl (hb hby d22_1) rfl (by decide) (cap := 2) (by decide) (by decide) (by decide) (by decide)
  obtain ⟨b1, g1⟩ : ∃ z, z = h0.size := ⟨_, rfl⟩
  rw [← g1] at A1 st1
  have ge_b1 : n0 ≤ b1 := Nat.le_trans Z0 (Nat.le_of_eq g1.symm)
  have sz_b1 : h0.size ≤ b1 := Nat.le_of_eq g1.symm
  have Z1 : n0 ≤ h1.size := Nat.le_trans Z0 E1.1
  have K1 : Keep h0 h1 [] := (Keep.refl h0 []).ext E1
  have V1 : Arv Z h1 b1 k1 .byte (2 : Int32) [(.int (0 : Int32)), (.int (0 : Int32))] (.int (0 : Int32)) := (Arv.new A1 (by decide)).pad (pad_rep [] (.int (0 : Int32)) 2)
  have f2 := (sA.ext E1)
  have f3 := (sH.ext E1)
  have f4 := (sL.ext E1)
  obtain ⟨_, T5, Lc5, X5, hQ5, st5⟩ := own_callS (W := 0) (y := mN19) X1 hx hZ hown (hw _ (own_w 96 rfl)) (hw _ (own_w 97 rfl)) (hw _ (own_w 39 rfl)) (hw _ (own_w 98 rfl)) (by decide) (rmPut_1_0 l Z av0 hw [] b1 k1 c0  h1 n0 Z1 V1 ge_b1 f2 f3 f4) (by decide) (by decide) (g := (mkF m 7 #[iv c0, rv b1] [(.int c0), (.int 0), (.ref b1)])) rfl (by rw [hml]; rfl) (argsL := [(.ref b1), (.int 0), (.int c0)]) (rest := []) (lenOf pd__BII_V rfl) rfl (hb hby d22_7) rfl e1 (by decide : 1 + 0 ≤ _) (by decide : 2 + 0 ≤ _)
  obtain ⟨rfl, N5q, K5, V5⟩ := hQ5
  have N5 := Fr.app N0 N5q
  have e5 : T5.heap = T5.heap := rfl
  have Zk5 : n0 ≤ T5.heap.size := Nat.le_trans Z1 K5.1
  have Kk5 : Keep h0 T5.heap [] := K1.trans K5 (allS (Or.inr sz_b1) all0)
  have S6 : ∀ t, oS p e below T5 (mkF m 11 #[iv c0, rv b1] [(.ref b1)]) t → oS p e below s₁ (mkF m 0 #[iv c0, .unset] []) t := fun t k => id (by
    show oS p e below s₁ (mkF m 0 #[iv c0, .unset] []) _
    refine XT.iconstV X0.here hx rfl (2 : Int32) (hb hby d22_0) (by decide) ?_
    refine st1 _ ?_
    refine XS.astoreN X1.here hx rfl (hb hby d22_3) rfl rfl (l' := #[iv c0, rv b1]) rfl ?_
    refine XS.aloadN X1.here hx rfl (hb hby d22_4) rfl rfl ?_
    refine XT.iconstV X1.here hx rfl (0 : Int32) (hb hby d22_5) (by decide) ?_
    refine XS.iloadN X1.here hx rfl (hb hby d22_6) rfl ?_
    refine st5 _ ?_
    refine XS.aloadN X5.here hx rfl (hb hby d22_10) rfl rfl ?_
    exact k)
  obtain ⟨fs, hr, hrun, hended, hW, hsame⟩ := X5.leave (v := some (.ref b1)) (fun h => by rw [Bd.returns] at h; cases h)
  refine ⟨_, _, pre0 _ (S6 _ ?_), hrun, hended, _, _, rfl, ?_, ⟨_, rfl⟩, hW, hsame.mono (by decide) (by decide)⟩
  · jvm_step X5.here [X5.here.top, hx, (hb hby d22_11), X5.method', Bd.returns, Value.isRef, FieldType.isReference]
    first | (intro acts; rw [hr _ acts rfl rfl rfl]) | rw [hr _ _ rfl rfl rfl]
    exact Steps.refl _
  · show QrmUtb Z c0 h0 n0 _ T5.heap _
    rw [e5]
    exact ⟨_, _, rfl, N5, sz_b1, Kk5, V5⟩
theorem d7_0 : decode jdk_42_method_151_code 0 = .ok (.aload_n 0, 1) := by decide +kernel
theorem d7_1 : decode jdk_42_method_151_code 1 = .ok (.invokespecial 1, 3) := by decide +kernel
theorem d7_4 : decode jdk_42_method_151_code 4 = .ok (.aload_n 0, 1) := by decide +kernel
theorem d7_5 : decode jdk_42_method_151_code 5 = .ok (.aload_n 1, 1) := by decide +kernel
theorem d7_6 : decode jdk_42_method_151_code 6 = .ok (.putfield 9, 3) := by decide +kernel
theorem d7_9 : decode jdk_42_method_151_code 9 = .ok (.aload_n 0, 1) := by decide +kernel
theorem d7_10 : decode jdk_42_method_151_code 10 = .ok (.iload_n 2, 1) := by decide +kernel
theorem d7_11 : decode jdk_42_method_151_code 11 = .ok (.putfield 15, 3) := by decide +kernel
theorem d7_14 : decode jdk_42_method_151_code 14 = .ok (.return_, 1) := by decide +kernel
def QrmSb0 (Z : State) (a0 : Addr) (a1 : Addr) (h0 : Heap) (n0 : Nat) (v : Option Value) (h : Heap) (L : List Loc) : Prop := v = none ∧ Fr n0 L ∧ Keep h0 h [a0] ∧ Fld Z h a0 "java/lang/String" "value" "[B" (.ref a1) ∧ Fld Z h a0 "java/lang/String" "coder" "B" (.int (0 : Int32))
set_option maxRecDepth 65536 in
set_option maxHeartbeats 40000000 in
theorem rmSb0 (l : Launch) (Z : State) (av0 : Array Value) (hw : ∀ d ∈ tables_1, d.before av0 Z = true) (ws : List Jvm.Cond) (a0 : Addr) (a1 : Addr) (h0 : Heap) (n0 : Nat) (Z0 : n0 ≤ h0.size) (hE : Exa Z h0 a0 "java/lang/String") (hV : Fld Z h0 a0 "java/lang/String" "value" "[B" .null) (hC : Fld Z h0 a0 "java/lang/String" "coder" "B" (.int (0 : Int32))) (hge : n0 ≤ a0) :
    own_Met l mN21 jdk_42_method_151_code 3 none ws ({ frames := 1, cells := 0, slots := 0, locals := 12 } : Room) #[(.ref a0), (.ref a1), (.int 0)] Z h0 (QrmSb0 Z a0 a1 h0 n0) := by
  refine MetFree.of_bodySF (plainFor_of_name pn_String) hisR ?_
  intro p e s m args below meth c s₁ Bd hml0 hP hK
  obtain ⟨rfl, hZ, hh⟩ := hP
  have hml : c.maxLocals = 3 := hml0
  obtain ⟨hx, hby, hown, hnm, X0, e0⟩ := own_start Bd hml0 hh
  have N0 := Fr.nil n0
  have pre0 : ∀ t, oS p e below s₁ (mkF m 0 #[rv a0, rv a1, iv 0] []) t → Steps p.tables e below (s₁.setTop (entryFrame m #[(.ref a0), (.ref a1), (.int 0)] 3)) t := fun t k => castTop (by first | (simp [entryFrame, mkF, argsToLocals, Value.category]; done) | rfl) k
  obtain ⟨T1, X1, e1, st1⟩ := initO X0 hx hZ hown (hw _ (own_w 11 rfl)) (hw _ (own_w 12 rfl)) (hw _ (own_w 13 rfl)) e0 (g := (mkF m 1 #[rv a0, rv a1, iv 0] [(.ref a0)])) rfl (by rw [hml]; rfl) rfl (hb hby d7_1) (by decide) (W := 0) (by show 2 * 0 + _ ≤ _; exact Nat.le_of_eq rfl) (by decide)
  obtain ⟨T2, h2, X2, e2, W2, st2⟩ := putF X1 hx hZ hown (host := "") (Or.inl (hw _ (own_w 20 rfl))) Via.refl e1 hV hE (Or.inr ⟨(hw _ (own_w 16 rfl)), rfl, hnm⟩) (hw _ (own_w 1 rfl)) (ty := (.array .byte)) (by decide) rfl rfl (g := (mkF m 6 #[rv a0, rv a1, iv 0] [(.ref a1), (.ref a0)])) rfl rfl (hb hby d7_6)
  have N2 := Fr.snoc X2 N0 hge
  have Z2 : n0 ≤ h2.size := Nat.le_trans Z0 (Nat.le_of_eq W2.size.symm)
  have K2 : Keep h0 h2 [a0] := (Keep.refl h0 [a0]).wr W2 (Or.inl (List.mem_of_getElem? (i := 0) rfl))
  have Fw2 := hV.same W2
  have f3 := (hC.other W2 (Or.inr (slot_ne (Or.inr (hw _ (own_w 17 rfl))) (Or.inr (hw _ (own_w 16 rfl))) (by decide) (t := .byte) (t' := (.array .byte)) (by decide) (by decide))))
  have f4 := (hE.wr W2)
  obtain ⟨T5, h5, X5, e5, W5, st5⟩ := putFN X2 hx hZ hown (hw _ (own_w 21 rfl)) Via.refl e2 f3 f4 (Or.inr ⟨(hw _ (own_w 17 rfl)), rfl, hnm⟩) (hw _ (own_w 1 rfl)) (ty := .byte) (v' := (.int 0)) (by decide) rfl rfl (g := (mkF m 11 #[rv a0, rv a1, iv 0] [(.int 0), (.ref a0)])) rfl rfl (hb hby d7_11)
  have N5 := Fr.snoc X5 N2 hge
  have Z5 : n0 ≤ h5.size := Nat.le_trans Z2 (Nat.le_of_eq W5.size.symm)
  have K5 : Keep h0 h5 [a0] := K2.wr W5 (Or.inl (List.mem_of_getElem? (i := 0) rfl))
  have Fw5 := f3.same W5
  have S6 : ∀ t, oS p e below T5 (mkF m 14 #[rv a0, rv a1, iv 0] []) t → oS p e below s₁ (mkF m 0 #[rv a0, rv a1, iv 0] []) t := fun t k => id (by
    show oS p e below s₁ (mkF m 0 #[rv a0, rv a1, iv 0] []) _
    refine XS.aloadN X0.here hx rfl (hb hby d7_0) rfl rfl ?_
    refine st1 _ ?_
    refine XS.aloadN X1.here hx rfl (hb hby d7_4) rfl rfl ?_
    refine XS.aloadN X1.here hx rfl (hb hby d7_5) rfl rfl ?_
    refine st2 _ ?_
    refine XS.aloadN X2.here hx rfl (hb hby d7_9) rfl rfl ?_
    refine XS.iloadN X2.here hx rfl (hb hby d7_10) rfl ?_
    refine st5 _ ?_
    exact k)
  obtain ⟨fs, hr, hrun, hended, hW, hsame⟩ := X5.leave (v := none) (fun _ => rfl)
  refine ⟨_, _, pre0 _ (S6 _ ?_), hrun, hended, _, _, rfl, ?_, ⟨_, rfl⟩, hW, hsame.mono (by decide) (by decide)⟩
  · exact X5.returnOut hx Bd.returns (hb hby d7_14) hr
  have f7 := (Fw2.other W5 (Or.inr (slot_ne (Or.inr (hw _ (own_w 16 rfl))) (Or.inr (hw _ (own_w 17 rfl))) (by decide) (t := (.array .byte)) (t' := .byte) (by decide) (by decide))))
  · show QrmSb0 Z a0 a1 h0 n0 _ T5.heap _
    rw [e5]
    exact ⟨rfl, N5, K5, f7, Fw5⟩
def QrmSb1 (Z : State) (a0 : Addr) (a1 : Addr) (h0 : Heap) (n0 : Nat) (v : Option Value) (h : Heap) (L : List Loc) : Prop := v = none ∧ Fr n0 L ∧ Keep h0 h [a0] ∧ Fld Z h a0 "java/lang/String" "value" "[B" (.ref a1) ∧ Fld Z h a0 "java/lang/String" "coder" "B" (.int (1 : Int32))
set_option maxRecDepth 65536 in
set_option maxHeartbeats 40000000 in
theorem rmSb1 (l : Launch) (Z : State) (av0 : Array Value) (hw : ∀ d ∈ tables_1, d.before av0 Z = true) (ws : List Jvm.Cond) (a0 : Addr) (a1 : Addr) (h0 : Heap) (n0 : Nat) (Z0 : n0 ≤ h0.size) (hE : Exa Z h0 a0 "java/lang/String") (hV : Fld Z h0 a0 "java/lang/String" "value" "[B" .null) (hC : Fld Z h0 a0 "java/lang/String" "coder" "B" (.int (0 : Int32))) (hge : n0 ≤ a0) :
    own_Met l mN21 jdk_42_method_151_code 3 none ws ({ frames := 1, cells := 0, slots := 0, locals := 12 } : Room) #[(.ref a0), (.ref a1), (.int 1)] Z h0 (QrmSb1 Z a0 a1 h0 n0) := by
  refine MetFree.of_bodySF (plainFor_of_name pn_String) hisR ?_
  intro p e s m args below meth c s₁ Bd hml0 hP hK
  obtain ⟨rfl, hZ, hh⟩ := hP
  have hml : c.maxLocals = 3 := hml0
  obtain ⟨hx, hby, hown, hnm, X0, e0⟩ := own_start Bd hml0 hh
  have N0 := Fr.nil n0
  have pre0 : ∀ t, oS p e below s₁ (mkF m 0 #[rv a0, rv a1, iv 1] []) t → Steps p.tables e below (s₁.setTop (entryFrame m #[(.ref a0), (.ref a1), (.int 1)] 3)) t := fun t k => castTop (by first | (simp [entryFrame, mkF, argsToLocals, Value.category]; done) | rfl) k
  obtain ⟨T1, X1, e1, st1⟩ := initO X0 hx hZ hown (hw _ (own_w 11 rfl)) (hw _ (own_w 12 rfl)) (hw _ (own_w 13 rfl)) e0 (g := (mkF m 1 #[rv a0, rv a1, iv 1] [(.ref a0)])) rfl (by rw [hml]; rfl) rfl (hb hby d7_1) (by decide) (W := 0) (by show 2 * 0 + _ ≤ _; exact Nat.le_of_eq rfl) (by decide)
  obtain ⟨T2, h2, X2, e2, W2, st2⟩ := putF X1 hx hZ hown (host := "") (Or.inl (hw _ (own_w 20 rfl))) Via.refl e1 hV hE (Or.inr ⟨(hw _ (own_w 16 rfl)), rfl, hnm⟩) (hw _ (own_w 1 rfl)) (ty := (.array .byte)) (by decide) rfl rfl (g := (mkF m 6 #[rv a0, rv a1, iv 1] [(.ref a1), (.ref a0)])) rfl rfl (hb hby d7_6)
  have N2 := Fr.snoc X2 N0 hge
  have Z2 : n0 ≤ h2.size := Nat.le_trans Z0 (Nat.le_of_eq W2.size.symm)
  have K2 : Keep h0 h2 [a0] := (Keep.refl h0 [a0]).wr W2 (Or.inl (List.mem_of_getElem? (i := 0) rfl))
  have Fw2 := hV.same W2
  have f3 := (hC.other W2 (Or.inr (slot_ne (Or.inr (hw _ (own_w 17 rfl))) (Or.inr (hw _ (own_w 16 rfl))) (by decide) (t := .byte) (t' := (.array .byte)) (by decide) (by decide))))
  have f4 := (hE.wr W2)
  obtain ⟨T5, h5, X5, e5, W5, st5⟩ := putFN X2 hx hZ hown (hw _ (own_w 21 rfl)) Via.refl e2 f3 f4 (Or.inr ⟨(hw _ (own_w 17 rfl)), rfl, hnm⟩) (hw _ (own_w 1 rfl)) (ty := .byte) (v' := (.int 1)) (by decide) rfl rfl (g := (mkF m 11 #[rv a0, rv a1, iv 1] [(.int 1), (.ref a0)])) rfl rfl (hb hby d7_11)
  have N5 := Fr.snoc X5 N2 hge
  have Z5 : n0 ≤ h5.size := Nat.le_trans Z2 (Nat.le_of_eq W5.size.symm)
  have K5 : Keep h0 h5 [a0] := K2.wr W5 (Or.inl (List.mem_of_getElem? (i := 0) rfl))
  have Fw5 := f3.same W5
  have S6 : ∀ t, oS p e below T5 (mkF m 14 #[rv a0, rv a1, iv 1] []) t → oS p e below s₁ (mkF m 0 #[rv a0, rv a1, iv 1] []) t := fun t k => id (by
    show oS p e below s₁ (mkF m 0 #[rv a0, rv a1, iv 1] []) _
    refine XS.aloadN X0.here hx rfl (hb hby d7_0) rfl rfl ?_
    refine st1 _ ?_
    refine XS.aloadN X1.here hx rfl (hb hby d7_4) rfl rfl ?_
    refine XS.aloadN X1.here hx rfl (hb hby d7_5) rfl rfl ?_
    refine st2 _ ?_
    refine XS.aloadN X2.here hx rfl (hb hby d7_9) rfl rfl ?_
    refine XS.iloadN X2.here hx rfl (hb hby d7_10) rfl ?_
    refine st5 _ ?_
    exact k)
  obtain ⟨fs, hr, hrun, hended, hW, hsame⟩ := X5.leave (v := none) (fun _ => rfl)
  refine ⟨_, _, pre0 _ (S6 _ ?_), hrun, hended, _, _, rfl, ?_, ⟨_, rfl⟩, hW, hsame.mono (by decide) (by decide)⟩
  · exact X5.returnOut hx Bd.returns (hb hby d7_14) hr
  have f7 := (Fw2.other W5 (Or.inr (slot_ne (Or.inr (hw _ (own_w 16 rfl))) (Or.inr (hw _ (own_w 17 rfl))) (by decide) (t := (.array .byte)) (t' := .byte) (by decide) (by decide))))
  · show QrmSb1 Z a0 a1 h0 n0 _ T5.heap _
    rw [e5]
    exact ⟨rfl, N5, K5, f7, Fw5⟩
theorem d4_0 : decode jdk_42_method_139_code 0 = .ok (.getstatic 38, 3) := by decide +kernel
theorem d4_3 : decode jdk_42_method_139_code 3 = .ok (.ifCond .eq 23, 3) := by decide +kernel
theorem d4_6 : decode jdk_42_method_139_code 6 = .ok (.iload_n 0, 1) := by decide +kernel
theorem d4_7 : decode jdk_42_method_139_code 7 = .ok (.invokestatic 1015, 3) := by decide +kernel
theorem d4_10 : decode jdk_42_method_139_code 10 = .ok (.ifCond .eq 16, 3) := by decide +kernel
theorem d4_13 : decode jdk_42_method_139_code 13 = .ok (.new 10, 3) := by decide +kernel
theorem d4_16 : decode jdk_42_method_139_code 16 = .ok (.dup, 1) := by decide +kernel
theorem d4_17 : decode jdk_42_method_139_code 17 = .ok (.iload_n 0, 1) := by decide +kernel
theorem d4_18 : decode jdk_42_method_139_code 18 = .ok (.invokestatic 1018, 3) := by decide +kernel
theorem d4_21 : decode jdk_42_method_139_code 21 = .ok (.iconst 0, 1) := by decide +kernel
theorem d4_22 : decode jdk_42_method_139_code 22 = .ok (.invokespecial 209, 3) := by decide +kernel
theorem d4_25 : decode jdk_42_method_139_code 25 = .ok (.areturn, 1) := by decide +kernel
theorem d4_26 : decode jdk_42_method_139_code 26 = .ok (.new 10, 3) := by decide +kernel
theorem d4_29 : decode jdk_42_method_139_code 29 = .ok (.dup, 1) := by decide +kernel
theorem d4_30 : decode jdk_42_method_139_code 30 = .ok (.iload_n 0, 1) := by decide +kernel
theorem d4_31 : decode jdk_42_method_139_code 31 = .ok (.invokestatic 1021, 3) := by decide +kernel
theorem d4_34 : decode jdk_42_method_139_code 34 = .ok (.iconst 1, 1) := by decide +kernel
theorem d4_35 : decode jdk_42_method_139_code 35 = .ok (.invokespecial 209, 3) := by decide +kernel
theorem d4_38 : decode jdk_42_method_139_code 38 = .ok (.areturn, 1) := by decide +kernel
theorem pd__C_B : parseMethodDescriptor "(C)[B" = some ⟨[.char], some (.array .byte)⟩ := by decide +kernel
theorem pd__BB_V : parseMethodDescriptor "([BB)V" = some ⟨[(.array .byte), .byte], none⟩ := by decide +kernel
def QrmVo (Z : State) (c0 : Int32) (wC : Int32) (h0 : Heap) (n0 : Nat) (v : Option Value) (h : Heap) (L : List Loc) : Prop := ∃ a : Addr, v = some (.ref a) ∧ Fr n0 L ∧ h0.size ≤ a ∧ Keep h0 h [] ∧ Exa Z h a "java/lang/String" ∧ own_St1 Z h a c0
set_option maxRecDepth 65536 in
set_option maxHeartbeats 40000000 in
theorem rmVo (l : Launch) (Z : State) (av0 : Array Value) (hw : ∀ d ∈ tables_1, d.before av0 Z = true) (ws : List Jvm.Cond) (c0 : Int32) (wC : Int32) (h0 : Heap) (n0 : Nat) (Z0 : n0 ≤ h0.size) (hS : Sta Z h0 "java/lang/String" "COMPACT_STRINGS" "Z" (.int wC)) (hw0 : ¬ wC = (0 : Int32)) (sA : Sta Z h0 "java/lang/StringUTF16" "$assertionsDisabled" "Z" (.int (1 : Int32))) (sH : Sta Z h0 "java/lang/StringUTF16" "HI_BYTE_SHIFT" "I" (.int (0 : Int32))) (sL : Sta Z h0 "java/lang/StringUTF16" "LO_BYTE_SHIFT" "I" (.int (8 : Int32))) :
    own_Met l mN22 jdk_42_method_139_code 1 (some (.object "java/lang/String")) ws ({ frames := 2, cells := 2, slots := 6, locals := 29 } : Room) #[(.int c0)] Z h0 (QrmVo Z c0 wC h0 n0) := by
  refine MetFree.of_bodySF (plainFor_of_name pn_String) hisR ?_
  intro p e s m args below meth c s₁ Bd hml0 hP hK
  obtain ⟨rfl, hZ, hh⟩ := hP
  have hml : c.maxLocals = 1 := hml0
  obtain ⟨hx, hby, hown, hnm, X0, e0⟩ := own_start Bd hml0 hh
  have N0 := Fr.nil n0
  have pre0 : ∀ t, oS p e below s₁ (mkF m 0 #[iv c0] []) t → Steps p.tables e below (s₁.setTop (entryFrame m #[(.int c0)] 1)) t := fun t k => castTop (by first | (simp [entryFrame, mkF, argsToLocals, Value.category]; done) | rfl) k
  obtain ⟨T1, X1, e1, st1⟩ := getS2 X0 hx hZ hown (host := "") (Or.inl (hw _ (own_w 25 rfl))) Via.refl e0 hS (g := (mkF m 0 #[iv c0] [])) rfl (hb hby d4_0)
  obtain ⟨_, T2, Lc2, X2, hQ2, st2⟩ := own_callS (W := 0) (y := mN17) X1 hx hZ hown (hw _ (own_w 26 rfl)) (hw _ (own_w 27 rfl)) (hw _ (own_w 28 rfl)) (hw _ (own_w 29 rfl)) (by decide) (rmCe l Z av0 hw [] c0 h0 n0 Z0 ) (by decide) (by decide) (g := (mkF m 7 #[iv c0] [(.int c0)])) rfl (by rw [hml]; rfl) (argsL := [(.int c0)]) (rest := []) (lenOf pd__C_Z rfl) rfl (hb hby d4_7) rfl e1 (by decide : 0 + 0 ≤ _) (by decide : 0 + 0 ≤ _)
  obtain ⟨rfl, N2q, hh2⟩ := hQ2
  have N2 := Fr.app N0 N2q
  have e2 : T2.heap = h0 := hh2
  have S3 : ∀ t, oS p e below T2 (mkF m 10 #[iv c0] [(.int (own_ce c0))]) t → oS p e below s₁ (mkF m 0 #[iv c0] []) t := fun t k => id (by
    show oS p e below s₁ (mkF m 0 #[iv c0] []) _
    refine st1 _ ?_
    refine XS.ifNo X1.here hx rfl (hb hby d4_3) rfl (XT.i0_eq_f hw0) ?_
    refine XS.iloadN X1.here hx rfl (hb hby d4_6) rfl ?_
    refine st2 _ ?_
    exact k)
  by_cases hc10_4 : (own_ce c0) = (0 : Int32)
  · obtain ⟨T5, h5, X5, e5, E5, A5, D5, -, st5⟩ := newO X2 hx hZ hown (hw _ (own_w 30 rfl)) (hw _ (own_w 1 rfl)) (hw _ (own_w 2 rfl)) e2 (g := (mkF m 26 #[iv c0] [])) rfl (hb hby d4_26) (by decide) (by decide)
    obtain ⟨b5, g5⟩ : ∃ z, z = h0.size := ⟨_, rfl⟩
    rw [← g5] at A5 D5 st5
    have ge_b5 : n0 ≤ b5 := Nat.le_trans Z0 (Nat.le_of_eq g5.symm)
    have sz_b5 : h0.size ≤ b5 := Nat.le_of_eq g5.symm
    have Z5 : n0 ≤ h5.size := Nat.le_trans Z0 E5.1
    have K5 : Keep h0 h5 [] := (Keep.refl h0 []).ext E5
    have F5_value : Fld Z h5 b5 "java/lang/String" "value" "[B" .null := D5 (Or.inr (hw _ (own_w 16 rfl))) (ty := (.array .byte)) (by decide)
    have F5_coder : Fld Z h5 b5 "java/lang/String" "coder" "B" (.int 0) := D5 (Or.inr (hw _ (own_w 17 rfl))) (ty := .byte) (by decide)
    have f6 := (sA.ext E5)
    have f7 := (sH.ext E5)
    have f8 := (sL.ext E5)
    obtain ⟨_, T9, Lc9, X9, hQ9, st9⟩ := own_callS (W := 2) (y := mN20) X5 hx hZ hown (hw _ (own_w 93 rfl)) (hw _ (own_w 94 rfl)) (hw _ (own_w 39 rfl)) (hw _ (own_w 95 rfl)) (by decide) (rmUtb l Z av0 hw [] c0 h5 n0 Z5 f6 f7 f8) (by decide) (by decide) (g := (mkF m 31 #[iv c0] [(.int c0), (.ref b5), (.ref b5)])) rfl (by rw [hml]; rfl) (argsL := [(.int c0)]) (rest := [(.ref b5), (.ref b5)]) (lenOf pd__C_B rfl) rfl (hb hby d4_31) rfl e5 (by decide : 1 + 1 ≤ _) (by decide : 4 + 2 ≤ _)
    obtain ⟨b9, kb9, rfl, N9q, gb9, K9, V9⟩ := hQ9
    have N9 := Fr.app N2 N9q
    have e9 : T9.heap = T9.heap := rfl
    have ne_b5_b9 : b5 ≠ b9 := Nat.ne_of_lt (Nat.lt_of_lt_of_le A5.lt gb9)
    have ge_b9 : n0 ≤ b9 := Nat.le_trans Z5 gb9
    have sz_b9 : h0.size ≤ b9 := Nat.le_trans K5.1 gb9
    have Zk9 : n0 ≤ T9.heap.size := Nat.le_trans Z5 K9.1
    have Kk9 : Keep h0 T9.heap [] := K5.trans K9 all0
    have f10 := (A5.keep K9)
    have f11 := (F5_value.keep K9 nin0)
    have f12 := (F5_coder.keep K9 nin0)
    obtain ⟨_, T13, Lc13, X13, hQ13, st13⟩ := own_special (W := 1) (y := mN21) X9 hx hZ rfl hown (hw _ (own_w 34 rfl)) (hw _ (own_w 35 rfl)) (hw _ (own_w 36 rfl)) (hw _ (own_w 2 rfl)) (by decide) (rmSb1 l Z av0 hw [] b5 b9 T9.heap n0 Zk9 f10 f11 f12 ge_b5) (by decide) (by decide) (g := (mkF m 35 #[iv c0] [(.int 1), (.ref b9), (.ref b5), (.ref b5)])) rfl (by rw [hml]; rfl) (a := b5) (argsL := [(.ref b9), (.int 1)]) (rest := [(.ref b5)]) (lenOf pd__BB_V rfl) rfl (hb hby d4_35) rfl e9 (by decide : 2 + 0 ≤ _) (by decide : 6 + 0 ≤ _)
    obtain ⟨rfl, N13q, K13, FV13, FC13⟩ := hQ13
    have N13 := Fr.app N9 N13q
    have e13 : T13.heap = T13.heap := rfl
    have Zk13 : n0 ≤ T13.heap.size := Nat.le_trans Zk9 K13.1
    have Kk13 : Keep h0 T13.heap [] := Kk9.trans K13 (allS (Or.inr sz_b5) all0)
    have S14 : ∀ t, oS p e below T13 (mkF m 38 #[iv c0] [(.ref b5)]) t → oS p e below s₁ (mkF m 0 #[iv c0] []) t := fun t k => S3 t (by
      show oS p e below T2 (mkF m 10 #[iv c0] [(.int (own_ce c0))]) _
      refine XS.ifYes X2.here hx rfl (pc0 := 10) (pc' := 26) rfl (hb hby d4_10) rfl (XT.i0_eq_t hc10_4) (by decide) (by decide) ?_
      refine st5 _ ?_
      refine XS.dup X5.here hx rfl (hb hby d4_29) rfl rfl ?_
      refine XS.iloadN X5.here hx rfl (hb hby d4_30) rfl ?_
      refine st9 _ ?_
      refine XT.iconstV X9.here hx rfl (1 : Int32) (hb hby d4_34) (by decide) ?_
      refine st13 _ ?_
      exact k)
    obtain ⟨fs, hr, hrun, hended, hW, hsame⟩ := X13.leave (v := some (.ref b5)) (fun h => by rw [Bd.returns] at h; cases h)
    refine ⟨_, _, pre0 _ (S14 _ ?_), hrun, hended, _, _, rfl, ?_, ⟨_, rfl⟩, hW, hsame.mono (by decide) (by decide)⟩
    · jvm_step X13.here [X13.here.top, hx, (hb hby d4_38), X13.method', Bd.returns, Value.isRef, FieldType.isReference]
      first | (intro acts; rw [hr _ acts rfl rfl rfl]) | rw [hr _ _ rfl rfl rfl]
      exact Steps.refl _
    have f15 := (V9.keep K13 (ninS (Ne.symm ne_b5_b9) nin0))
    have f16 := (f10.keep K13)
    · show QrmVo Z c0 wC h0 n0 _ T13.heap _
      rw [e13]
      exact ⟨_, rfl, N13, sz_b5, Kk13, f16, Or.inr ⟨b9, _, FV13, FC13, f15⟩⟩
  · obtain ⟨T17, h17, X17, e17, E17, A17, D17, -, st17⟩ := newO X2 hx hZ hown (hw _ (own_w 30 rfl)) (hw _ (own_w 1 rfl)) (hw _ (own_w 2 rfl)) e2 (g := (mkF m 13 #[iv c0] [])) rfl (hb hby d4_13) (by decide) (by decide)
    obtain ⟨b17, g17⟩ : ∃ z, z = h0.size := ⟨_, rfl⟩
    rw [← g17] at A17 D17 st17
    have ge_b17 : n0 ≤ b17 := Nat.le_trans Z0 (Nat.le_of_eq g17.symm)
    have sz_b17 : h0.size ≤ b17 := Nat.le_of_eq g17.symm
    have Z17 : n0 ≤ h17.size := Nat.le_trans Z0 E17.1
    have K17 : Keep h0 h17 [] := (Keep.refl h0 []).ext E17
    have F17_value : Fld Z h17 b17 "java/lang/String" "value" "[B" .null := D17 (Or.inr (hw _ (own_w 16 rfl))) (ty := (.array .byte)) (by decide)
    have F17_coder : Fld Z h17 b17 "java/lang/String" "coder" "B" (.int 0) := D17 (Or.inr (hw _ (own_w 17 rfl))) (ty := .byte) (by decide)
    obtain ⟨_, T18, Lc18, X18, hQ18, st18⟩ := own_callS (W := 2) (y := mN18) X17 hx hZ hown (hw _ (own_w 31 rfl)) (hw _ (own_w 32 rfl)) (hw _ (own_w 28 rfl)) (hw _ (own_w 33 rfl)) (by decide) (rmLtb l Z av0 hw [] c0 h17 n0 Z17 ) (by decide) (by decide) (g := (mkF m 18 #[iv c0] [(.int c0), (.ref b17), (.ref b17)])) rfl (by rw [hml]; rfl) (argsL := [(.int c0)]) (rest := [(.ref b17), (.ref b17)]) (lenOf pd__C_B rfl) rfl (hb hby d4_18) rfl e17 (by decide : 1 + 1 ≤ _) (by decide : 4 + 1 ≤ _)
    obtain ⟨b18, kb18, rfl, N18q, gb18, K18, V18⟩ := hQ18
    have N18 := Fr.app N2 N18q
    have e18 : T18.heap = T18.heap := rfl
    have ne_b17_b18 : b17 ≠ b18 := Nat.ne_of_lt (Nat.lt_of_lt_of_le A17.lt gb18)
    have ge_b18 : n0 ≤ b18 := Nat.le_trans Z17 gb18
    have sz_b18 : h0.size ≤ b18 := Nat.le_trans K17.1 gb18
    have Zk18 : n0 ≤ T18.heap.size := Nat.le_trans Z17 K18.1
    have Kk18 : Keep h0 T18.heap [] := K17.trans K18 all0
    have f19 := (A17.keep K18)
    have f20 := (F17_value.keep K18 nin0)
    have f21 := (F17_coder.keep K18 nin0)
    obtain ⟨_, T22, Lc22, X22, hQ22, st22⟩ := own_special (W := 1) (y := mN21) X18 hx hZ rfl hown (hw _ (own_w 34 rfl)) (hw _ (own_w 35 rfl)) (hw _ (own_w 36 rfl)) (hw _ (own_w 2 rfl)) (by decide) (rmSb0 l Z av0 hw [] b17 b18 T18.heap n0 Zk18 f19 f20 f21 ge_b17) (by decide) (by decide) (g := (mkF m 22 #[iv c0] [(.int 0), (.ref b18), (.ref b17), (.ref b17)])) rfl (by rw [hml]; rfl) (a := b17) (argsL := [(.ref b18), (.int 0)]) (rest := [(.ref b17)]) (lenOf pd__BB_V rfl) rfl (hb hby d4_22) rfl e18 (by decide : 2 + 0 ≤ _) (by decide : 5 + 0 ≤ _)
    obtain ⟨rfl, N22q, K22, FV22, FC22⟩ := hQ22
    have N22 := Fr.app N18 N22q
    have e22 : T22.heap = T22.heap := rfl
    have Zk22 : n0 ≤ T22.heap.size := Nat.le_trans Zk18 K22.1
    have Kk22 : Keep h0 T22.heap [] := Kk18.trans K22 (allS (Or.inr sz_b17) all0)
    have S23 : ∀ t, oS p e below T22 (mkF m 25 #[iv c0] [(.ref b17)]) t → oS p e below s₁ (mkF m 0 #[iv c0] []) t := fun t k => S3 t (by
      show oS p e below T2 (mkF m 10 #[iv c0] [(.int (own_ce c0))]) _
      refine XS.ifNo X2.here hx rfl (hb hby d4_10) rfl (XT.i0_eq_f hc10_4) ?_
      refine st17 _ ?_
      refine XS.dup X17.here hx rfl (hb hby d4_16) rfl rfl ?_
      refine XS.iloadN X17.here hx rfl (hb hby d4_17) rfl ?_
      refine st18 _ ?_
      refine XT.iconstV X18.here hx rfl (0 : Int32) (hb hby d4_21) (by decide) ?_
      refine st22 _ ?_
      exact k)
    obtain ⟨fs, hr, hrun, hended, hW, hsame⟩ := X22.leave (v := some (.ref b17)) (fun h => by rw [Bd.returns] at h; cases h)
    refine ⟨_, _, pre0 _ (S23 _ ?_), hrun, hended, _, _, rfl, ?_, ⟨_, rfl⟩, hW, hsame.mono (by decide) (by decide)⟩
    · jvm_step X22.here [X22.here.top, hx, (hb hby d4_25), X22.method', Bd.returns, Value.isRef, FieldType.isReference]
      first | (intro acts; rw [hr _ acts rfl rfl rfl]) | rw [hr _ _ rfl rfl rfl]
      exact Steps.refl _
    have f24 := (V18.keep K22 (ninS (Ne.symm ne_b17_b18) nin0))
    have f25 := (f19.keep K22)
    · show QrmVo Z c0 wC h0 n0 _ T22.heap _
      rw [e22]
      exact ⟨_, rfl, N22, sz_b17, Kk22, f25, Or.inl ⟨b18, _, FV22, FC22, f24, own_ce1 hc10_4⟩⟩
theorem d9_0 : decode jdk_52_method_21_code 0 = .ok (.iconst 0, 1) := by decide +kernel
theorem d9_1 : decode jdk_52_method_21_code 1 = .ok (.istore 5, 2) := by decide +kernel
theorem d9_3 : decode jdk_52_method_21_code 3 = .ok (.iload 5, 2) := by decide +kernel
theorem d9_5 : decode jdk_52_method_21_code 5 = .ok (.iload 4, 2) := by decide +kernel
theorem d9_7 : decode jdk_52_method_21_code 7 = .ok (.if_icmp .ge 37, 3) := by decide +kernel
theorem d9_10 : decode jdk_52_method_21_code 10 = .ok (.aload_n 0, 1) := by decide +kernel
theorem d9_11 : decode jdk_52_method_21_code 11 = .ok (.iload_n 1, 1) := by decide +kernel
theorem d9_12 : decode jdk_52_method_21_code 12 = .ok (.caload, 1) := by decide +kernel
theorem d9_13 : decode jdk_52_method_21_code 13 = .ok (.istore 6, 2) := by decide +kernel
theorem d9_15 : decode jdk_52_method_21_code 15 = .ok (.iload 6, 2) := by decide +kernel
theorem d9_17 : decode jdk_52_method_21_code 17 = .ok (.sipush 255, 3) := by decide +kernel
theorem d9_20 : decode jdk_52_method_21_code 20 = .ok (.if_icmp .le 6, 3) := by decide +kernel
theorem d9_23 : decode jdk_52_method_21_code 23 = .ok (.iload 5, 2) := by decide +kernel
theorem d9_25 : decode jdk_52_method_21_code 25 = .ok (.ireturn, 1) := by decide +kernel
def QrmCp5_2_0 (Z : State) (a0 : Addr) (a2 : Addr) (ka : ClassId) (kb : ClassId) (c0 : Int32) (c1 : Int32) (h0 : Heap) (n0 : Nat) (v : Option Value) (h : Heap) (L : List Loc) : Prop := v = some (.int (0 : Int32)) ∧ Fr n0 L ∧ Keep h0 h [a2] ∧ Arv Z h a2 kb .byte (2 : Int32) [(.int (0 : Int32)), (.int (0 : Int32))] (.int (0 : Int32))
set_option maxRecDepth 65536 in
set_option maxHeartbeats 40000000 in
theorem rmCp5_2_0 (l : Launch) (Z : State) (av0 : Array Value) (hw : ∀ d ∈ tables_1, d.before av0 Z = true) (ws : List Jvm.Cond) (a0 : Addr) (a2 : Addr) (ka : ClassId) (kb : ClassId) (c0 : Int32) (c1 : Int32) (h0 : Heap) (n0 : Nat) (Z0 : n0 ≤ h0.size) (hA : Arv Z h0 a0 ka .char (2 : Int32) [(.int c0), (.int c1)] (.int (0 : Int32))) (hB : Arv Z h0 a2 kb .byte (2 : Int32) [(.int (0 : Int32)), (.int (0 : Int32))] (.int (0 : Int32))) (hne : a0 ≠ a2) (hge : n0 ≤ a2) (hbg : (255 : Int32) < c0) :
    own_Met l mN23 jdk_52_method_21_code 7 (some .int) ws ({ frames := 0, cells := 0, slots := 0, locals := 0 } : Room) #[(.ref a0), (.int 0), (.ref a2), (.int 0), (.int 2)] Z h0 (QrmCp5_2_0 Z a0 a2 ka kb c0 c1 h0 n0) := by
  refine MetFree.of_bodySF (plainFor_of_name pn_StringUTF16) hisR ?_
  intro p e s m args below meth c s₁ Bd hml0 hP hK
  obtain ⟨rfl, hZ, hh⟩ := hP
  have hml : c.maxLocals = 7 := hml0
  obtain ⟨hx, hby, hown, hnm, X0, e0⟩ := own_start Bd hml0 hh
  have N0 := Fr.nil n0
  have pre0 : ∀ t, oS p e below s₁ (mkF m 0 #[rv a0, iv 0, rv a2, iv 0, iv 2, .unset, .unset] []) t → Steps p.tables e below (s₁.setTop (entryFrame m #[(.ref a0), (.int 0), (.ref a2), (.int 0), (.int 2)] 7)) t := fun t k => castTop (by first | (simp [entryFrame, mkF, argsToLocals, Value.category]; done) | rfl) k
  obtain ⟨cl1, Ar1, qk1, Sz1, Ng1, Hs1, Gs1⟩ := id hA
  have hin1 : ¬ ((0 : Int32) < 0 ∨ cl1.slots.size ≤ ((0 : Int32)).toNatClampNeg) := inb_of Sz1 ⟨by decide, by decide⟩
  have hat1 : cl1.slots[((0 : Int32)).toNatClampNeg]? = some (.int c0) := Hs1.at hin1 rfl
  have S2 : ∀ t, oS p e below s₁ (mkF m 25 #[rv a0, iv 0, rv a2, iv 0, iv 2, iv 0, iv c0] [(.int 0)]) t → oS p e below s₁ (mkF m 0 #[rv a0, iv 0, rv a2, iv 0, iv 2, .unset, .unset] []) t := fun t k => id (by
    show oS p e below s₁ (mkF m 0 #[rv a0, iv 0, rv a2, iv 0, iv 2, .unset, .unset] []) _
    refine XT.iconstV X0.here hx rfl (0 : Int32) (hb hby d9_0) (by decide) ?_
    refine XS.istore X0.here hx rfl (hb hby d9_1) rfl (l' := #[rv a0, iv 0, rv a2, iv 0, iv 2, iv 0, .unset]) rfl ?_
    refine XS.iload X0.here hx rfl (hb hby d9_3) rfl ?_
    refine XS.iload X0.here hx rfl (hb hby d9_5) rfl ?_
    refine XS.icmpNo X0.here hx rfl (hb hby d9_7) rfl (XT.ii_ge_f (by decide)) ?_
    refine XS.aloadN X0.here hx rfl (hb hby d9_10) rfl rfl ?_
    refine XS.iloadN X0.here hx rfl (hb hby d9_11) rfl ?_
    refine X0.caload hx (j := (0 : Int32)) (v := (.int c0)) (by rw [e0]; exact Ar1.1) (State.isArrayOf_alike hZ.alike Ar1.2.1) Ar1.2.2 hin1 hat1 (g := (mkF m 12 #[rv a0, iv 0, rv a2, iv 0, iv 2, iv 0, .unset] [(.int 0), (.ref a0)])) rfl rfl (hb hby d9_12) _ ?_
    refine XS.istore X0.here hx rfl (hb hby d9_13) rfl (l' := #[rv a0, iv 0, rv a2, iv 0, iv 2, iv 0, iv c0]) rfl ?_
    refine XS.iload X0.here hx rfl (hb hby d9_15) rfl ?_
    refine XT.sipushV X0.here hx rfl (255 : Int32) (hb hby d9_17) (by decide) ?_
    refine XS.icmpNo X0.here hx rfl (hb hby d9_20) rfl (XT.ii_le_f hbg) ?_
    refine XS.iload X0.here hx rfl (hb hby d9_23) rfl ?_
    exact k)
  obtain ⟨fs, hr, hrun, hended, hW, hsame⟩ := X0.leave (v := some (.int 0)) (fun h => by rw [Bd.returns] at h; cases h)
  refine ⟨_, _, pre0 _ (S2 _ ?_), hrun, hended, _, _, rfl, ?_, ⟨_, rfl⟩, hW, hsame.mono (by decide) (by decide)⟩
  · exact retI X0 hx Bd.returns (hb hby d9_25) hr
  · show QrmCp5_2_0 Z a0 a2 ka kb c0 c1 h0 n0 _ s₁.heap _
    rw [e0]
    exact ⟨congrArg (fun z => some (Value.int z)) (by decide), N0, (Keep.refl _ _), hB⟩
theorem d26_0 : decode jdk_52_method_3_code 0 = .ok (.iload_n 0, 1) := by decide +kernel
theorem d26_1 : decode jdk_52_method_3_code 1 = .ok (.ifCond .ge 11, 3) := by decide +kernel
theorem d26_12 : decode jdk_52_method_3_code 12 = .ok (.iload_n 0, 1) := by decide +kernel
theorem d26_13 : decode jdk_52_method_3_code 13 = .ok (.ldc 20, 2) := by decide +kernel
theorem d26_15 : decode jdk_52_method_3_code 15 = .ok (.if_icmp .lt 40, 3) := by decide +kernel
theorem d26_55 : decode jdk_52_method_3_code 55 = .ok (.iload_n 0, 1) := by decide +kernel
theorem d26_56 : decode jdk_52_method_3_code 56 = .ok (.iconst 1, 1) := by decide +kernel
theorem d26_57 : decode jdk_52_method_3_code 57 = .ok (.ishl, 1) := by decide +kernel
theorem d26_58 : decode jdk_52_method_3_code 58 = .ok (.ireturn, 1) := by decide +kernel
def QrmNbl_2 (Z : State)  (h0 : Heap) (n0 : Nat) (v : Option Value) (h : Heap) (L : List Loc) : Prop := v = some (.int (4 : Int32)) ∧ Fr n0 L ∧ h = h0
set_option maxRecDepth 65536 in
set_option maxHeartbeats 40000000 in
theorem rmNbl_2 (l : Launch) (Z : State) (av0 : Array Value) (hw : ∀ d ∈ tables_1, d.before av0 Z = true) (ws : List Jvm.Cond)  (h0 : Heap) (n0 : Nat) (Z0 : n0 ≤ h0.size)  :
    own_Met l mN24 jdk_52_method_3_code 1 (some .int) ws ({ frames := 0, cells := 0, slots := 0, locals := 0 } : Room) #[(.int 2)] Z h0 (QrmNbl_2 Z  h0 n0) := by
  refine MetFree.of_bodySF (plainFor_of_name pn_StringUTF16) hisR ?_
  intro p e s m args below meth c s₁ Bd hml0 hP hK
  obtain ⟨rfl, hZ, hh⟩ := hP
  have hml : c.maxLocals = 1 := hml0
  obtain ⟨hx, hby, hown, hnm, X0, e0⟩ := own_start Bd hml0 hh
  have N0 := Fr.nil n0
  have pre0 : ∀ t, oS p e below s₁ (mkF m 0 #[iv 2] []) t → Steps p.tables e below (s₁.setTop (entryFrame m #[(.int 2)] 1)) t := fun t k => castTop (by first | (simp [entryFrame, mkF, argsToLocals, Value.category]; done) | rfl) k
  have S1 : ∀ t, oS p e below s₁ (mkF m 58 #[iv 2] [(.int 4)]) t → oS p e below s₁ (mkF m 0 #[iv 2] []) t := fun t k => id (by
    show oS p e below s₁ (mkF m 0 #[iv 2] []) _
    refine XS.iloadN X0.here hx rfl (hb hby d26_0) rfl ?_
    refine XS.ifYes X0.here hx rfl (pc0 := 1) (pc' := 12) rfl (hb hby d26_1) rfl (XT.i0_ge_t (by decide)) (by decide) (by decide) ?_
    refine XS.iloadN X0.here hx rfl (hb hby d26_12) rfl ?_
    refine X0.ldcI hx hown (mvT hZ (hw _ (own_w 111 rfl))) rfl (hb hby d26_13) ?_
    refine XS.icmpYes X0.here hx rfl (pc0 := 15) (pc' := 55) rfl (hb hby d26_15) rfl (XT.ii_lt_t (by decide)) (by decide) (by decide) ?_
    refine XS.iloadN X0.here hx rfl (hb hby d26_55) rfl ?_
    refine XT.iconstV X0.here hx rfl (1 : Int32) (hb hby d26_56) (by decide) ?_
    refine XT.ishl X0.here hx rfl (hb hby d26_57) rfl ?_
    exact k)
  obtain ⟨fs, hr, hrun, hended, hW, hsame⟩ := X0.leave (v := some (.int 4)) (fun h => by rw [Bd.returns] at h; cases h)
  refine ⟨_, _, pre0 _ (S1 _ ?_), hrun, hended, _, _, rfl, ?_, ⟨_, rfl⟩, hW, hsame.mono (by decide) (by decide)⟩
  · exact retI X0 hx Bd.returns (hb hby d26_58) hr
  · show QrmNbl_2 Z  h0 n0 _ s₁.heap _
    rw [e0]
    exact ⟨congrArg (fun z => some (Value.int z)) (by decide), N0, rfl⟩
theorem d25_0 : decode jdk_52_method_2_code 0 = .ok (.iload_n 0, 1) := by decide +kernel
theorem d25_1 : decode jdk_52_method_2_code 1 = .ok (.invokestatic 11, 3) := by decide +kernel
theorem d25_4 : decode jdk_52_method_2_code 4 = .ok (.newarray .byte, 2) := by decide +kernel
theorem d25_6 : decode jdk_52_method_2_code 6 = .ok (.areturn, 1) := by decide +kernel
theorem pd__I_I : parseMethodDescriptor "(I)I" = some ⟨[.int], some .int⟩ := by decide +kernel
def QrmNbf_2 (Z : State)  (h0 : Heap) (n0 : Nat) (v : Option Value) (h : Heap) (L : List Loc) : Prop := ∃ (b : Addr) (k : ClassId), v = some (.ref b) ∧ Fr n0 L ∧ h0.size ≤ b ∧ Keep h0 h [] ∧ Arv Z h b k .byte (4 : Int32) [(.int (0 : Int32)), (.int (0 : Int32)), (.int (0 : Int32)), (.int (0 : Int32))] (.int (0 : Int32))
set_option maxRecDepth 65536 in
set_option maxHeartbeats 40000000 in
theorem rmNbf_2 (l : Launch) (Z : State) (av0 : Array Value) (hw : ∀ d ∈ tables_1, d.before av0 Z = true) (ws : List Jvm.Cond)  (h0 : Heap) (n0 : Nat) (Z0 : n0 ≤ h0.size)  :
    own_Met l mN25 jdk_52_method_2_code 1 (some (.array .byte)) ws ({ frames := 1, cells := 1, slots := 4, locals := 12 } : Room) #[(.int 2)] Z h0 (QrmNbf_2 Z  h0 n0) := by
  refine MetFree.of_bodySF (plainFor_of_name pn_StringUTF16) hisR ?_
  intro p e s m args below meth c s₁ Bd hml0 hP hK
  obtain ⟨rfl, hZ, hh⟩ := hP
  have hml : c.maxLocals = 1 := hml0
  obtain ⟨hx, hby, hown, hnm, X0, e0⟩ := own_start Bd hml0 hh
  have N0 := Fr.nil n0
  have pre0 : ∀ t, oS p e below s₁ (mkF m 0 #[iv 2] []) t → Steps p.tables e below (s₁.setTop (entryFrame m #[(.int 2)] 1)) t := fun t k => castTop (by first | (simp [entryFrame, mkF, argsToLocals, Value.category]; done) | rfl) k
  obtain ⟨_, T1, Lc1, X1, hQ1, st1⟩ := own_callS (W := 0) (y := mN24) X0 hx hZ hown (hw _ (own_w 108 rfl)) (hw _ (own_w 109 rfl)) (hw _ (own_w 39 rfl)) (hw _ (own_w 110 rfl)) (by decide) (rmNbl_2 l Z av0 hw []  h0 n0 Z0 ) (by decide) (by decide) (g := (mkF m 1 #[iv 2] [(.int 2)])) rfl (by rw [hml]; rfl) (argsL := [(.int 2)]) (rest := []) (lenOf pd__I_I rfl) rfl (hb hby d25_1) rfl e0 (by decide : 0 + 0 ≤ _) (by decide : 0 + 0 ≤ _)
  obtain ⟨rfl, N1q, hh1⟩ := hQ1
  have N1 := Fr.app N0 N1q
  have e1 : T1.heap = h0 := hh1
  obtain ⟨T2, h2, k2, X2, e2, E2, A2, st2⟩ := newP X1 hx hZ (hw _ (own_w 15 rfl)) e1 (g := (mkF m 4 #[iv 2] [(.int 4)])) rfl (hb hby d25_4) rfl (by decide) (cap := 4) (by decide) (by decide) (by decide) (by decide)
  obtain ⟨b2, g2⟩ : ∃ z, z = h0.size := ⟨_, rfl⟩
  rw [← g2] at A2 st2
  have ge_b2 : n0 ≤ b2 := Nat.le_trans Z0 (Nat.le_of_eq g2.symm)
  have sz_b2 : h0.size ≤ b2 := Nat.le_of_eq g2.symm
  have Z2 : n0 ≤ h2.size := Nat.le_trans Z0 E2.1
  have K2 : Keep h0 h2 [] := (Keep.refl h0 []).ext E2
  have V2 : Arv Z h2 b2 k2 .byte (4 : Int32) [(.int (0 : Int32)), (.int (0 : Int32)), (.int (0 : Int32)), (.int (0 : Int32))] (.int (0 : Int32)) := (Arv.new A2 (by decide)).pad (pad_rep [] (.int (0 : Int32)) 4)
  have S3 : ∀ t, oS p e below T2 (mkF m 6 #[iv 2] [(.ref b2)]) t → oS p e below s₁ (mkF m 0 #[iv 2] []) t := fun t k => id (by
    show oS p e below s₁ (mkF m 0 #[iv 2] []) _
    refine XS.iloadN X0.here hx rfl (hb hby d25_0) rfl ?_
    refine st1 _ ?_
    refine st2 _ ?_
    exact k)
  obtain ⟨fs, hr, hrun, hended, hW, hsame⟩ := X2.leave (v := some (.ref b2)) (fun h => by rw [Bd.returns] at h; cases h)
  refine ⟨_, _, pre0 _ (S3 _ ?_), hrun, hended, _, _, rfl, ?_, ⟨_, rfl⟩, hW, hsame.mono (by decide) (by decide)⟩
  · jvm_step X2.here [X2.here.top, hx, (hb hby d25_6), X2.method', Bd.returns, Value.isRef, FieldType.isReference]
    first | (intro acts; rw [hr _ acts rfl rfl rfl]) | rw [hr _ _ rfl rfl rfl]
    exact Steps.refl _
  · show QrmNbf_2 Z  h0 n0 _ T2.heap _
    rw [e2]
    exact ⟨_, _, rfl, N1, sz_b2, K2, V2⟩
def QrmPut_2_0 (Z : State) (a0 : Addr) (ka : ClassId) (cc : Int32) (h0 : Heap) (n0 : Nat) (v : Option Value) (h : Heap) (L : List Loc) : Prop := v = none ∧ Fr n0 L ∧ Keep h0 h [a0] ∧ Arv Z h a0 ka .byte (4 : Int32) [(.int (own_lo cc)), (.int (own_hi cc)), (.int (0 : Int32)), (.int (0 : Int32))] (.int (0 : Int32))
set_option maxRecDepth 65536 in
set_option maxHeartbeats 40000000 in
theorem rmPut_2_0 (l : Launch) (Z : State) (av0 : Array Value) (hw : ∀ d ∈ tables_1, d.before av0 Z = true) (ws : List Jvm.Cond) (a0 : Addr) (ka : ClassId) (cc : Int32) (h0 : Heap) (n0 : Nat) (Z0 : n0 ≤ h0.size) (hA : Arv Z h0 a0 ka .byte (4 : Int32) [(.int (0 : Int32)), (.int (0 : Int32)), (.int (0 : Int32)), (.int (0 : Int32))] (.int (0 : Int32))) (hge : n0 ≤ a0) (sA : Sta Z h0 "java/lang/StringUTF16" "$assertionsDisabled" "Z" (.int (1 : Int32))) (sH : Sta Z h0 "java/lang/StringUTF16" "HI_BYTE_SHIFT" "I" (.int (0 : Int32))) (sL : Sta Z h0 "java/lang/StringUTF16" "LO_BYTE_SHIFT" "I" (.int (8 : Int32))) :
    own_Met l mN19 jdk_52_method_4_code 3 none ws ({ frames := 0, cells := 0, slots := 0, locals := 0 } : Room) #[(.ref a0), (.int 0), (.int cc)] Z h0 (QrmPut_2_0 Z a0 ka cc h0 n0) := by
  refine MetFree.of_bodySF (plainFor_of_name pn_StringUTF16) hisR ?_
  intro p e s m args below meth c s₁ Bd hml0 hP hK
  obtain ⟨rfl, hZ, hh⟩ := hP
  have hml : c.maxLocals = 3 := hml0
  obtain ⟨hx, hby, hown, hnm, X0, e0⟩ := own_start Bd hml0 hh
  have N0 := Fr.nil n0
  have pre0 : ∀ t, oS p e below s₁ (mkF m 0 #[rv a0, iv 0, iv cc] []) t → Steps p.tables e below (s₁.setTop (entryFrame m #[(.ref a0), (.int 0), (.int cc)] 3)) t := fun t k => castTop (by first | (simp [entryFrame, mkF, argsToLocals, Value.category]; done) | rfl) k
  obtain ⟨T1, X1, e1, st1⟩ := getS2 X0 hx hZ hown (host := "") (Or.inl (hw _ (own_w 99 rfl))) Via.refl e0 sA (g := (mkF m 0 #[rv a0, iv 0, iv cc] [])) rfl (hb hby d23_0)
  obtain ⟨T2, X2, e2, st2⟩ := getS2 X1 hx hZ hown (host := "") (Or.inl (hw _ (own_w 100 rfl))) Via.refl e1 sH (g := (mkF m 38 #[rv a0, iv 1, iv cc] [(.int cc), (.int 0), (.ref a0)])) rfl (hb hby d23_38)
  obtain ⟨cl3, Ar3, qk3, Sz3, Ng3, Hs3, Gs3⟩ := id hA
  have hin3 : ¬ ((0 : Int32) < 0 ∨ cl3.slots.size ≤ ((0 : Int32)).toNatClampNeg) := inb_of Sz3 ⟨by decide, by decide⟩
  obtain ⟨T4, h4, X4, e4, W4, st4⟩ := stB X2 hx hZ e2 Ar3 (j := (0 : Int32)) hin3 (g := (mkF m 43 #[rv a0, iv 1, iv cc] [(.int ((cc >>> ((0 : Int32) &&& 31))).toInt8.toInt32), (.int 0), (.ref a0)])) rfl rfl (hb hby d23_43)
  have N4 := Fr.snoc X4 N0 hge
  have Z4 : n0 ≤ h4.size := Nat.le_trans Z0 (Nat.le_of_eq W4.size.symm)
  have K4 : Keep h0 h4 [a0] := (Keep.refl h0 [a0]).wr W4 (Or.inl (List.mem_of_getElem? (i := 0) rfl))
  have V4 : Arv Z h4 a0 ka .byte (4 : Int32) [(.int (nar .byte ((cc >>> ((0 : Int32) &&& 31))).toInt8.toInt32)), (.int (0 : Int32)), (.int (0 : Int32)), (.int (0 : Int32))] (.int (0 : Int32)) := Arv.set Ar3 qk3 Sz3 Ng3 Hs3 Gs3 (fits_nar_byte _) W4 0 rfl (Nat.le_of_ble_eq_true rfl)
  have f5 := (sL.wr W4)
  obtain ⟨T6, X6, e6, st6⟩ := getS2 X4 hx hZ hown (host := "") (Or.inl (hw _ (own_w 101 rfl))) Via.refl e4 f5 (g := (mkF m 47 #[rv a0, iv 1, iv cc] [(.int cc), (.int 1), (.ref a0)])) rfl (hb hby d23_47)
  obtain ⟨cl7, Ar7, qk7, Sz7, Ng7, Hs7, Gs7⟩ := id V4
  have hin7 : ¬ ((1 : Int32) < 0 ∨ cl7.slots.size ≤ ((1 : Int32)).toNatClampNeg) := inb_of Sz7 ⟨by decide, by decide⟩
  obtain ⟨T8, h8, X8, e8, W8, st8⟩ := stB X6 hx hZ e6 Ar7 (j := (1 : Int32)) hin7 (g := (mkF m 52 #[rv a0, iv 1, iv cc] [(.int ((cc >>> ((8 : Int32) &&& 31))).toInt8.toInt32), (.int 1), (.ref a0)])) rfl rfl (hb hby d23_52)
  have N8 := Fr.snoc X8 N4 hge
  have Z8 : n0 ≤ h8.size := Nat.le_trans Z4 (Nat.le_of_eq W8.size.symm)
  have K8 : Keep h0 h8 [a0] := K4.wr W8 (Or.inl (List.mem_of_getElem? (i := 0) rfl))
  have V8 : Arv Z h8 a0 ka .byte (4 : Int32) [(.int (nar .byte ((cc >>> ((0 : Int32) &&& 31))).toInt8.toInt32)), (.int (nar .byte ((cc >>> ((8 : Int32) &&& 31))).toInt8.toInt32)), (.int (0 : Int32)), (.int (0 : Int32))] (.int (0 : Int32)) := Arv.set Ar7 qk7 Sz7 Ng7 Hs7 Gs7 (fits_nar_byte _) W8 1 rfl (Nat.le_of_ble_eq_true rfl)
  have S9 : ∀ t, oS p e below T8 (mkF m 53 #[rv a0, iv 1, iv cc] []) t → oS p e below s₁ (mkF m 0 #[rv a0, iv 0, iv cc] []) t := fun t k => id (by
    show oS p e below s₁ (mkF m 0 #[rv a0, iv 0, iv cc] []) _
    refine st1 _ ?_
    refine XS.ifYes X1.here hx rfl (pc0 := 3) (pc' := 28) rfl (hb hby d23_3) rfl (XT.i0_ne_t (by decide)) (by decide) (by decide) ?_
    refine XS.iloadN X1.here hx rfl (hb hby d23_28) rfl ?_
    refine XT.iconstV X1.here hx rfl (1 : Int32) (hb hby d23_29) (by decide) ?_
    refine XT.ishl X1.here hx rfl (hb hby d23_30) rfl ?_
    refine XS.istoreN X1.here hx rfl (hb hby d23_31) rfl (l' := #[rv a0, iv 0, iv cc]) rfl ?_
    refine XS.aloadN X1.here hx rfl (hb hby d23_32) rfl rfl ?_
    refine XS.iloadN X1.here hx rfl (hb hby d23_33) rfl ?_
    refine XT.iincV X1.here hx rfl (1 : Int32) (hb hby d23_34) (by decide) rfl (l' := #[rv a0, iv 1, iv cc]) rfl ?_
    refine XS.iloadN X1.here hx rfl (hb hby d23_37) rfl ?_
    refine st2 _ ?_
    refine XT.ishr X2.here hx rfl (hb hby d23_41) rfl ?_
    refine XT.i2b X2.here hx rfl (hb hby d23_42) rfl ?_
    refine st4 _ ?_
    refine XS.aloadN X4.here hx rfl (hb hby d23_44) rfl rfl ?_
    show oS p e below T4 (mkF m 45 #[rv a0, iv 1, iv cc] [(.ref a0)]) _
    refine XS.iloadN X4.here hx rfl (hb hby d23_45) rfl ?_
    refine XS.iloadN X4.here hx rfl (hb hby d23_46) rfl ?_
    refine st6 _ ?_
    refine XT.ishr X6.here hx rfl (hb hby d23_50) rfl ?_
    refine XT.i2b X6.here hx rfl (hb hby d23_51) rfl ?_
    refine st8 _ ?_
    exact k)
  obtain ⟨fs, hr, hrun, hended, hW, hsame⟩ := X8.leave (v := none) (fun _ => rfl)
  refine ⟨_, _, pre0 _ (S9 _ ?_), hrun, hended, _, _, rfl, ?_, ⟨_, rfl⟩, hW, hsame.mono (by decide) (by decide)⟩
  · exact X8.returnOut hx Bd.returns (hb hby d23_53) hr
  · show QrmPut_2_0 Z a0 ka cc h0 n0 _ T8.heap _
    rw [e8]
    exact ⟨rfl, N8, K8, V8⟩
def QrmPut_2_1 (Z : State) (a0 : Addr) (ka : ClassId) (cc : Int32) (c0 : Int32) (h0 : Heap) (n0 : Nat) (v : Option Value) (h : Heap) (L : List Loc) : Prop := v = none ∧ Fr n0 L ∧ Keep h0 h [a0] ∧ Arv Z h a0 ka .byte (4 : Int32) [(.int (own_lo c0)), (.int (own_hi c0)), (.int (own_lo cc)), (.int (own_hi cc))] (.int (0 : Int32))
set_option maxRecDepth 65536 in
set_option maxHeartbeats 40000000 in
theorem rmPut_2_1 (l : Launch) (Z : State) (av0 : Array Value) (hw : ∀ d ∈ tables_1, d.before av0 Z = true) (ws : List Jvm.Cond) (a0 : Addr) (ka : ClassId) (cc : Int32) (c0 : Int32) (h0 : Heap) (n0 : Nat) (Z0 : n0 ≤ h0.size) (hA : Arv Z h0 a0 ka .byte (4 : Int32) [(.int (own_lo c0)), (.int (own_hi c0)), (.int (0 : Int32)), (.int (0 : Int32))] (.int (0 : Int32))) (hge : n0 ≤ a0) (sA : Sta Z h0 "java/lang/StringUTF16" "$assertionsDisabled" "Z" (.int (1 : Int32))) (sH : Sta Z h0 "java/lang/StringUTF16" "HI_BYTE_SHIFT" "I" (.int (0 : Int32))) (sL : Sta Z h0 "java/lang/StringUTF16" "LO_BYTE_SHIFT" "I" (.int (8 : Int32))) :
    own_Met l mN19 jdk_52_method_4_code 3 none ws ({ frames := 0, cells := 0, slots := 0, locals := 0 } : Room) #[(.ref a0), (.int 1), (.int cc)] Z h0 (QrmPut_2_1 Z a0 ka cc c0 h0 n0) := by
  refine MetFree.of_bodySF (plainFor_of_name pn_StringUTF16) hisR ?_
  intro p e s m args below meth c s₁ Bd hml0 hP hK
  obtain ⟨rfl, hZ, hh⟩ := hP
  have hml : c.maxLocals = 3 := hml0
  obtain ⟨hx, hby, hown, hnm, X0, e0⟩ := own_start Bd hml0 hh
  have N0 := Fr.nil n0
  have pre0 : ∀ t, oS p e below s₁ (mkF m 0 #[rv a0, iv 1, iv cc] []) t → Steps p.tables e below (s₁.setTop (entryFrame m #[(.ref a0), (.int 1), (.int cc)] 3)) t := fun t k => castTop (by first | (simp [entryFrame, mkF, argsToLocals, Value.category]; done) | rfl) k
  obtain ⟨T1, X1, e1, st1⟩ := getS2 X0 hx hZ hown (host := "") (Or.inl (hw _ (own_w 99 rfl))) Via.refl e0 sA (g := (mkF m 0 #[rv a0, iv 1, iv cc] [])) rfl (hb hby d23_0)
  obtain ⟨T2, X2, e2, st2⟩ := getS2 X1 hx hZ hown (host := "") (Or.inl (hw _ (own_w 100 rfl))) Via.refl e1 sH (g := (mkF m 38 #[rv a0, iv 3, iv cc] [(.int cc), (.int 2), (.ref a0)])) rfl (hb hby d23_38)
  obtain ⟨cl3, Ar3, qk3, Sz3, Ng3, Hs3, Gs3⟩ := id hA
  have hin3 : ¬ ((2 : Int32) < 0 ∨ cl3.slots.size ≤ ((2 : Int32)).toNatClampNeg) := inb_of Sz3 ⟨by decide, by decide⟩
  obtain ⟨T4, h4, X4, e4, W4, st4⟩ := stB X2 hx hZ e2 Ar3 (j := (2 : Int32)) hin3 (g := (mkF m 43 #[rv a0, iv 3, iv cc] [(.int ((cc >>> ((0 : Int32) &&& 31))).toInt8.toInt32), (.int 2), (.ref a0)])) rfl rfl (hb hby d23_43)
  have N4 := Fr.snoc X4 N0 hge
  have Z4 : n0 ≤ h4.size := Nat.le_trans Z0 (Nat.le_of_eq W4.size.symm)
  have K4 : Keep h0 h4 [a0] := (Keep.refl h0 [a0]).wr W4 (Or.inl (List.mem_of_getElem? (i := 0) rfl))
  have V4 : Arv Z h4 a0 ka .byte (4 : Int32) [(.int (own_lo c0)), (.int (own_hi c0)), (.int (nar .byte ((cc >>> ((0 : Int32) &&& 31))).toInt8.toInt32)), (.int (0 : Int32))] (.int (0 : Int32)) := Arv.set Ar3 qk3 Sz3 Ng3 Hs3 Gs3 (fits_nar_byte _) W4 2 rfl (Nat.le_of_ble_eq_true rfl)
  have f5 := (sL.wr W4)
  obtain ⟨T6, X6, e6, st6⟩ := getS2 X4 hx hZ hown (host := "") (Or.inl (hw _ (own_w 101 rfl))) Via.refl e4 f5 (g := (mkF m 47 #[rv a0, iv 3, iv cc] [(.int cc), (.int 3), (.ref a0)])) rfl (hb hby d23_47)
  obtain ⟨cl7, Ar7, qk7, Sz7, Ng7, Hs7, Gs7⟩ := id V4
  have hin7 : ¬ ((3 : Int32) < 0 ∨ cl7.slots.size ≤ ((3 : Int32)).toNatClampNeg) := inb_of Sz7 ⟨by decide, by decide⟩
  obtain ⟨T8, h8, X8, e8, W8, st8⟩ := stB X6 hx hZ e6 Ar7 (j := (3 : Int32)) hin7 (g := (mkF m 52 #[rv a0, iv 3, iv cc] [(.int ((cc >>> ((8 : Int32) &&& 31))).toInt8.toInt32), (.int 3), (.ref a0)])) rfl rfl (hb hby d23_52)
  have N8 := Fr.snoc X8 N4 hge
  have Z8 : n0 ≤ h8.size := Nat.le_trans Z4 (Nat.le_of_eq W8.size.symm)
  have K8 : Keep h0 h8 [a0] := K4.wr W8 (Or.inl (List.mem_of_getElem? (i := 0) rfl))
  have V8 : Arv Z h8 a0 ka .byte (4 : Int32) [(.int (own_lo c0)), (.int (own_hi c0)), (.int (nar .byte ((cc >>> ((0 : Int32) &&& 31))).toInt8.toInt32)), (.int (nar .byte ((cc >>> ((8 : Int32) &&& 31))).toInt8.toInt32))] (.int (0 : Int32)) := Arv.set Ar7 qk7 Sz7 Ng7 Hs7 Gs7 (fits_nar_byte _) W8 3 rfl (Nat.le_of_ble_eq_true rfl)
  have S9 : ∀ t, oS p e below T8 (mkF m 53 #[rv a0, iv 3, iv cc] []) t → oS p e below s₁ (mkF m 0 #[rv a0, iv 1, iv cc] []) t := fun t k => id (by
    show oS p e below s₁ (mkF m 0 #[rv a0, iv 1, iv cc] []) _
    refine st1 _ ?_
    refine XS.ifYes X1.here hx rfl (pc0 := 3) (pc' := 28) rfl (hb hby d23_3) rfl (XT.i0_ne_t (by decide)) (by decide) (by decide) ?_
    refine XS.iloadN X1.here hx rfl (hb hby d23_28) rfl ?_
    refine XT.iconstV X1.here hx rfl (1 : Int32) (hb hby d23_29) (by decide) ?_
    refine XT.ishl X1.here hx rfl (hb hby d23_30) rfl ?_
    refine XS.istoreN X1.here hx rfl (hb hby d23_31) rfl (l' := #[rv a0, iv 2, iv cc]) rfl ?_
    refine XS.aloadN X1.here hx rfl (hb hby d23_32) rfl rfl ?_
    refine XS.iloadN X1.here hx rfl (hb hby d23_33) rfl ?_
    refine XT.iincV X1.here hx rfl (1 : Int32) (hb hby d23_34) (by decide) rfl (l' := #[rv a0, iv 3, iv cc]) rfl ?_
    refine XS.iloadN X1.here hx rfl (hb hby d23_37) rfl ?_
    refine st2 _ ?_
    refine XT.ishr X2.here hx rfl (hb hby d23_41) rfl ?_
    refine XT.i2b X2.here hx rfl (hb hby d23_42) rfl ?_
    refine st4 _ ?_
    refine XS.aloadN X4.here hx rfl (hb hby d23_44) rfl rfl ?_
    show oS p e below T4 (mkF m 45 #[rv a0, iv 3, iv cc] [(.ref a0)]) _
    refine XS.iloadN X4.here hx rfl (hb hby d23_45) rfl ?_
    refine XS.iloadN X4.here hx rfl (hb hby d23_46) rfl ?_
    refine st6 _ ?_
    refine XT.ishr X6.here hx rfl (hb hby d23_50) rfl ?_
    refine XT.i2b X6.here hx rfl (hb hby d23_51) rfl ?_
    refine st8 _ ?_
    exact k)
  obtain ⟨fs, hr, hrun, hended, hW, hsame⟩ := X8.leave (v := none) (fun _ => rfl)
  refine ⟨_, _, pre0 _ (S9 _ ?_), hrun, hended, _, _, rfl, ?_, ⟨_, rfl⟩, hW, hsame.mono (by decide) (by decide)⟩
  · exact X8.returnOut hx Bd.returns (hb hby d23_53) hr
  · show QrmPut_2_1 Z a0 ka cc c0 h0 n0 _ T8.heap _
    rw [e8]
    exact ⟨rfl, N8, K8, V8⟩
theorem d24_0 : decode jdk_52_method_14_code 0 = .ok (.iload_n 2, 1) := by decide +kernel
theorem d24_1 : decode jdk_52_method_14_code 1 = .ok (.invokestatic 107, 3) := by decide +kernel
theorem d24_4 : decode jdk_52_method_14_code 4 = .ok (.astore_n 3, 1) := by decide +kernel
theorem d24_5 : decode jdk_52_method_14_code 5 = .ok (.iconst 0, 1) := by decide +kernel
theorem d24_6 : decode jdk_52_method_14_code 6 = .ok (.istore 4, 2) := by decide +kernel
theorem d24_8 : decode jdk_52_method_14_code 8 = .ok (.iload 4, 2) := by decide +kernel
theorem d24_10 : decode jdk_52_method_14_code 10 = .ok (.iload_n 2, 1) := by decide +kernel
theorem d24_11 : decode jdk_52_method_14_code 11 = .ok (.if_icmp .ge 21, 3) := by decide +kernel
theorem d24_14 : decode jdk_52_method_14_code 14 = .ok (.aload_n 3, 1) := by decide +kernel
theorem d24_15 : decode jdk_52_method_14_code 15 = .ok (.iload 4, 2) := by decide +kernel
theorem d24_17 : decode jdk_52_method_14_code 17 = .ok (.aload_n 0, 1) := by decide +kernel
theorem d24_18 : decode jdk_52_method_14_code 18 = .ok (.iload_n 1, 1) := by decide +kernel
theorem d24_19 : decode jdk_52_method_14_code 19 = .ok (.caload, 1) := by decide +kernel
theorem d24_20 : decode jdk_52_method_14_code 20 = .ok (.invokestatic 111, 3) := by decide +kernel
theorem d24_23 : decode jdk_52_method_14_code 23 = .ok (.iinc 1 1, 3) := by decide +kernel
theorem d24_26 : decode jdk_52_method_14_code 26 = .ok (.iinc 4 1, 3) := by decide +kernel
theorem d24_29 : decode jdk_52_method_14_code 29 = .ok (.goto (-21), 3) := by decide +kernel
theorem d24_32 : decode jdk_52_method_14_code 32 = .ok (.aload_n 3, 1) := by decide +kernel
theorem d24_33 : decode jdk_52_method_14_code 33 = .ok (.areturn, 1) := by decide +kernel
theorem pd__I_B : parseMethodDescriptor "(I)[B" = some ⟨[.int], some (.array .byte)⟩ := by decide +kernel
def QrmTb_2 (Z : State) (a0 : Addr) (ka : ClassId) (c0 : Int32) (c1 : Int32) (h0 : Heap) (n0 : Nat) (v : Option Value) (h : Heap) (L : List Loc) : Prop := ∃ (b : Addr) (k : ClassId), v = some (.ref b) ∧ Fr n0 L ∧ h0.size ≤ b ∧ Keep h0 h [] ∧ Arv Z h b k .byte (4 : Int32) [(.int (own_lo c0)), (.int (own_hi c0)), (.int (own_lo c1)), (.int (own_hi c1))] (.int (0 : Int32))
set_option maxRecDepth 65536 in
set_option maxHeartbeats 40000000 in
theorem rmTb_2 (l : Launch) (Z : State) (av0 : Array Value) (hw : ∀ d ∈ tables_1, d.before av0 Z = true) (ws : List Jvm.Cond) (a0 : Addr) (ka : ClassId) (c0 : Int32) (c1 : Int32) (h0 : Heap) (n0 : Nat) (Z0 : n0 ≤ h0.size) (hA : Arv Z h0 a0 ka .char (2 : Int32) [(.int c0), (.int c1)] (.int (0 : Int32))) (sA : Sta Z h0 "java/lang/StringUTF16" "$assertionsDisabled" "Z" (.int (1 : Int32))) (sH : Sta Z h0 "java/lang/StringUTF16" "HI_BYTE_SHIFT" "I" (.int (0 : Int32))) (sL : Sta Z h0 "java/lang/StringUTF16" "LO_BYTE_SHIFT" "I" (.int (8 : Int32))) :
    own_Met l mN26 jdk_52_method_14_code 5 (some (.array .byte)) ws ({ frames := 2, cells := 1, slots := 4, locals := 24 } : Room) #[(.ref a0), (.int 0), (.int 2)] Z h0 (QrmTb_2 Z a0 ka c0 c1 h0 n0) := by
  refine MetFree.of_bodySF (plainFor_of_name pn_StringUTF16) hisR ?_
  intro p e s m args below meth c s₁ Bd hml0 hP hK
  obtain ⟨rfl, hZ, hh⟩ := hP
  have hml : c.maxLocals = 5 := hml0
  obtain ⟨hx, hby, hown, hnm, X0, e0⟩ := own_start Bd hml0 hh
  have N0 := Fr.nil n0
  have pre0 : ∀ t, oS p e below s₁ (mkF m 0 #[rv a0, iv 0, iv 2, .unset, .unset] []) t → Steps p.tables e below (s₁.setTop (entryFrame m #[(.ref a0), (.int 0), (.int 2)] 5)) t := fun t k => castTop (by first | (simp [entryFrame, mkF, argsToLocals, Value.category]; done) | rfl) k
  obtain ⟨_, T1, Lc1, X1, hQ1, st1⟩ := own_callS (W := 0) (y := mN25) X0 hx hZ hown (hw _ (own_w 105 rfl)) (hw _ (own_w 106 rfl)) (hw _ (own_w 39 rfl)) (hw _ (own_w 107 rfl)) (by decide) (rmNbf_2 l Z av0 hw []  h0 n0 Z0 ) (by decide) (by decide) (g := (mkF m 1 #[rv a0, iv 0, iv 2, .unset, .unset] [(.int 2)])) rfl (by rw [hml]; rfl) (argsL := [(.int 2)]) (rest := []) (lenOf pd__I_B rfl) rfl (hb hby d24_1) rfl e0 (by decide : 0 + 1 ≤ _) (by decide : 0 + 4 ≤ _)
  obtain ⟨b1, kb1, rfl, N1q, gb1, K1, V1⟩ := hQ1
  have N1 := Fr.app N0 N1q
  have e1 : T1.heap = T1.heap := rfl
  have ne_a0_b1 : a0 ≠ b1 := Nat.ne_of_lt (Nat.lt_of_lt_of_le hA.lt gb1)
  have ge_b1 : n0 ≤ b1 := Nat.le_trans Z0 gb1
  have sz_b1 : h0.size ≤ b1 := gb1
  have Zk1 : n0 ≤ T1.heap.size := Nat.le_trans Z0 K1.1
  have Kk1 : Keep h0 T1.heap [] := (Keep.refl h0 []).trans K1 all0
  have f2 := (hA.keep K1 nin0)
  obtain ⟨cl3, Ar3, qk3, Sz3, Ng3, Hs3, Gs3⟩ := id f2
  have hin3 : ¬ ((0 : Int32) < 0 ∨ cl3.slots.size ≤ ((0 : Int32)).toNatClampNeg) := inb_of Sz3 ⟨by decide, by decide⟩
  have hat3 : cl3.slots[((0 : Int32)).toNatClampNeg]? = some (.int c0) := Hs3.at hin3 rfl
  have f4 := (own_stak sA K1 all0)
  have f5 := (own_stak sH K1 all0)
  have f6 := (own_stak sL K1 all0)
  obtain ⟨_, T7, Lc7, X7, hQ7, st7⟩ := own_callS (W := 0) (y := mN19) X1 hx hZ hown (hw _ (own_w 96 rfl)) (hw _ (own_w 97 rfl)) (hw _ (own_w 39 rfl)) (hw _ (own_w 98 rfl)) (by decide) (rmPut_2_0 l Z av0 hw [] b1 kb1 c0  T1.heap n0 Zk1 V1 ge_b1 f4 f5 f6) (by decide) (by decide) (g := (mkF m 20 #[rv a0, iv 0, iv 2, rv b1, iv 0] [(.int c0), (.int 0), (.ref b1)])) rfl (by rw [hml]; rfl) (argsL := [(.ref b1), (.int 0), (.int c0)]) (rest := []) (lenOf pd__BII_V rfl) rfl (hb hby d24_20) rfl e1 (by decide : 1 + 0 ≤ _) (by decide : 4 + 0 ≤ _)
  obtain ⟨rfl, N7q, K7, V7⟩ := hQ7
  have N7 := Fr.app N1 N7q
  have e7 : T7.heap = T7.heap := rfl
  have Zk7 : n0 ≤ T7.heap.size := Nat.le_trans Zk1 K7.1
  have Kk7 : Keep h0 T7.heap [] := Kk1.trans K7 (allS (Or.inr sz_b1) all0)
  have f8 := (f2.keep K7 (ninS ne_a0_b1 nin0))
  obtain ⟨cl9, Ar9, qk9, Sz9, Ng9, Hs9, Gs9⟩ := id f8
  have hin9 : ¬ ((1 : Int32) < 0 ∨ cl9.slots.size ≤ ((1 : Int32)).toNatClampNeg) := inb_of Sz9 ⟨by decide, by decide⟩
  have hat9 : cl9.slots[((1 : Int32)).toNatClampNeg]? = some (.int c1) := Hs9.at hin9 rfl
  have f10 := (own_stak f4 K7 (allS (own_arns V1) all0))
  have f11 := (own_stak f5 K7 (allS (own_arns V1) all0))
  have f12 := (own_stak f6 K7 (allS (own_arns V1) all0))
  obtain ⟨_, T13, Lc13, X13, hQ13, st13⟩ := own_callS (W := 0) (y := mN19) X7 hx hZ hown (hw _ (own_w 96 rfl)) (hw _ (own_w 97 rfl)) (hw _ (own_w 39 rfl)) (hw _ (own_w 98 rfl)) (by decide) (rmPut_2_1 l Z av0 hw [] b1 kb1 c1 c0 T7.heap n0 Zk7 V7 ge_b1 f10 f11 f12) (by decide) (by decide) (g := (mkF m 20 #[rv a0, iv 1, iv 2, rv b1, iv 1] [(.int c1), (.int 1), (.ref b1)])) rfl (by rw [hml]; rfl) (argsL := [(.ref b1), (.int 1), (.int c1)]) (rest := []) (lenOf pd__BII_V rfl) rfl (hb hby d24_20) rfl e7 (by decide : 1 + 0 ≤ _) (by decide : 4 + 0 ≤ _)
  obtain ⟨rfl, N13q, K13, V13⟩ := hQ13
  have N13 := Fr.app N7 N13q
  have e13 : T13.heap = T13.heap := rfl
  have Zk13 : n0 ≤ T13.heap.size := Nat.le_trans Zk7 K13.1
  have Kk13 : Keep h0 T13.heap [] := Kk7.trans K13 (allS (Or.inr sz_b1) all0)
  have S14 : ∀ t, oS p e below T13 (mkF m 33 #[rv a0, iv 2, iv 2, rv b1, iv 2] [(.ref b1)]) t → oS p e below s₁ (mkF m 0 #[rv a0, iv 0, iv 2, .unset, .unset] []) t := fun t k => id (by
    show oS p e below s₁ (mkF m 0 #[rv a0, iv 0, iv 2, .unset, .unset] []) _
    refine XS.iloadN X0.here hx rfl (hb hby d24_0) rfl ?_
    refine st1 _ ?_
    refine XS.astoreN X1.here hx rfl (hb hby d24_4) rfl rfl (l' := #[rv a0, iv 0, iv 2, rv b1, .unset]) rfl ?_
    refine XT.iconstV X1.here hx rfl (0 : Int32) (hb hby d24_5) (by decide) ?_
    refine XS.istore X1.here hx rfl (hb hby d24_6) rfl (l' := #[rv a0, iv 0, iv 2, rv b1, iv 0]) rfl ?_
    refine XS.iload X1.here hx rfl (hb hby d24_8) rfl ?_
    refine XS.iloadN X1.here hx rfl (hb hby d24_10) rfl ?_
    refine XS.icmpNo X1.here hx rfl (hb hby d24_11) rfl (XT.ii_ge_f (by decide)) ?_
    refine XS.aloadN X1.here hx rfl (hb hby d24_14) rfl rfl ?_
    refine XS.iload X1.here hx rfl (hb hby d24_15) rfl ?_
    refine XS.aloadN X1.here hx rfl (hb hby d24_17) rfl rfl ?_
    refine XS.iloadN X1.here hx rfl (hb hby d24_18) rfl ?_
    refine X1.caload hx (j := (0 : Int32)) (v := (.int c0)) (by rw [e1]; exact Ar3.1) (State.isArrayOf_alike hZ.alike Ar3.2.1) Ar3.2.2 hin3 hat3 (g := (mkF m 19 #[rv a0, iv 0, iv 2, rv b1, iv 0] [(.int 0), (.ref a0), (.int 0), (.ref b1)])) rfl rfl (hb hby d24_19) _ ?_
    refine st7 _ ?_
    refine XT.iincV X7.here hx rfl (1 : Int32) (hb hby d24_23) (by decide) rfl (l' := #[rv a0, iv 1, iv 2, rv b1, iv 0]) rfl ?_
    show oS p e below T7 (mkF m 26 #[rv a0, iv 1, iv 2, rv b1, iv 0] []) _
    refine XT.iincV X7.here hx rfl (1 : Int32) (hb hby d24_26) (by decide) rfl (l' := #[rv a0, iv 1, iv 2, rv b1, iv 1]) rfl ?_
    refine XS.goto X7.here hx rfl (pc0 := 29) (pc' := 8) rfl (hb hby d24_29) (by decide) (by decide) ?_
    refine XS.iload X7.here hx rfl (hb hby d24_8) rfl ?_
    refine XS.iloadN X7.here hx rfl (hb hby d24_10) rfl ?_
    refine XS.icmpNo X7.here hx rfl (hb hby d24_11) rfl (XT.ii_ge_f (by decide)) ?_
    refine XS.aloadN X7.here hx rfl (hb hby d24_14) rfl rfl ?_
    refine XS.iload X7.here hx rfl (hb hby d24_15) rfl ?_
    refine XS.aloadN X7.here hx rfl (hb hby d24_17) rfl rfl ?_
    refine XS.iloadN X7.here hx rfl (hb hby d24_18) rfl ?_
    refine X7.caload hx (j := (1 : Int32)) (v := (.int c1)) (by rw [e7]; exact Ar9.1) (State.isArrayOf_alike hZ.alike Ar9.2.1) Ar9.2.2 hin9 hat9 (g := (mkF m 19 #[rv a0, iv 1, iv 2, rv b1, iv 1] [(.int 1), (.ref a0), (.int 1), (.ref b1)])) rfl rfl (hb hby d24_19) _ ?_
    refine st13 _ ?_
    refine XT.iincV X13.here hx rfl (1 : Int32) (hb hby d24_23) (by decide) rfl (l' := #[rv a0, iv 2, iv 2, rv b1, iv 1]) rfl ?_
    refine XT.iincV X13.here hx rfl (1 : Int32) (hb hby d24_26) (by decide) rfl (l' := #[rv a0, iv 2, iv 2, rv b1, iv 2]) rfl ?_
    refine XS.goto X13.here hx rfl (pc0 := 29) (pc' := 8) rfl (hb hby d24_29) (by decide) (by decide) ?_
    refine XS.iload X13.here hx rfl (hb hby d24_8) rfl ?_
    show oS p e below T13 (mkF m 10 #[rv a0, iv 2, iv 2, rv b1, iv 2] [(.int 2)]) _
    refine XS.iloadN X13.here hx rfl (hb hby d24_10) rfl ?_
    refine XS.icmpYes X13.here hx rfl (pc0 := 11) (pc' := 32) rfl (hb hby d24_11) rfl (XT.ii_ge_t (by decide)) (by decide) (by decide) ?_
    refine XS.aloadN X13.here hx rfl (hb hby d24_32) rfl rfl ?_
    exact k)
  obtain ⟨fs, hr, hrun, hended, hW, hsame⟩ := X13.leave (v := some (.ref b1)) (fun h => by rw [Bd.returns] at h; cases h)
  refine ⟨_, _, pre0 _ (S14 _ ?_), hrun, hended, _, _, rfl, ?_, ⟨_, rfl⟩, hW, hsame.mono (by decide) (by decide)⟩
  · jvm_step X13.here [X13.here.top, hx, (hb hby d24_33), X13.method', Bd.returns, Value.isRef, FieldType.isReference]
    first | (intro acts; rw [hr _ acts rfl rfl rfl]) | rw [hr _ _ rfl rfl rfl]
    exact Steps.refl _
  · show QrmTb_2 Z a0 ka c0 c1 h0 n0 _ T13.heap _
    rw [e13]
    exact ⟨_, _, rfl, N13, sz_b1, Kk13, V13⟩
theorem d8_0 : decode jdk_52_method_16_code 0 = .ok (.iload_n 2, 1) := by decide +kernel
theorem d8_1 : decode jdk_52_method_16_code 1 = .ok (.newarray .byte, 2) := by decide +kernel
theorem d8_3 : decode jdk_52_method_16_code 3 = .ok (.astore_n 3, 1) := by decide +kernel
theorem d8_4 : decode jdk_52_method_16_code 4 = .ok (.aload_n 0, 1) := by decide +kernel
theorem d8_5 : decode jdk_52_method_16_code 5 = .ok (.iload_n 1, 1) := by decide +kernel
theorem d8_6 : decode jdk_52_method_16_code 6 = .ok (.aload_n 3, 1) := by decide +kernel
theorem d8_7 : decode jdk_52_method_16_code 7 = .ok (.iconst 0, 1) := by decide +kernel
theorem d8_8 : decode jdk_52_method_16_code 8 = .ok (.iload_n 2, 1) := by decide +kernel
theorem d8_9 : decode jdk_52_method_16_code 9 = .ok (.invokestatic 115, 3) := by decide +kernel
theorem d8_12 : decode jdk_52_method_16_code 12 = .ok (.istore 4, 2) := by decide +kernel
theorem d8_14 : decode jdk_52_method_16_code 14 = .ok (.iload 4, 2) := by decide +kernel
theorem d8_16 : decode jdk_52_method_16_code 16 = .ok (.iload_n 2, 1) := by decide +kernel
theorem d8_17 : decode jdk_52_method_16_code 17 = .ok (.if_icmp .eq 40, 3) := by decide +kernel
theorem d8_20 : decode jdk_52_method_16_code 20 = .ok (.aload_n 0, 1) := by decide +kernel
theorem d8_21 : decode jdk_52_method_16_code 21 = .ok (.iload_n 1, 1) := by decide +kernel
theorem d8_22 : decode jdk_52_method_16_code 22 = .ok (.iload_n 2, 1) := by decide +kernel
theorem d8_23 : decode jdk_52_method_16_code 23 = .ok (.invokestatic 119, 3) := by decide +kernel
theorem d8_26 : decode jdk_52_method_16_code 26 = .ok (.astore 5, 2) := by decide +kernel
theorem d8_28 : decode jdk_52_method_16_code 28 = .ok (.aload 5, 2) := by decide +kernel
theorem d8_30 : decode jdk_52_method_16_code 30 = .ok (.iload 4, 2) := by decide +kernel
theorem d8_32 : decode jdk_52_method_16_code 32 = .ok (.invokestatic 71, 3) := by decide +kernel
theorem d8_35 : decode jdk_52_method_16_code 35 = .ok (.sipush 255, 3) := by decide +kernel
theorem d8_38 : decode jdk_52_method_16_code 38 = .ok (.if_icmp .gt 16, 3) := by decide +kernel
theorem d8_54 : decode jdk_52_method_16_code 54 = .ok (.aload 5, 2) := by decide +kernel
theorem d8_56 : decode jdk_52_method_16_code 56 = .ok (.areturn, 1) := by decide +kernel
theorem pd__CI_BII_I : parseMethodDescriptor "([CI[BII)I" = some ⟨[(.array .char), .int, (.array .byte), .int, .int], some .int⟩ := by decide +kernel
theorem pd__CII_B : parseMethodDescriptor "([CII)[B" = some ⟨[(.array .char), .int, .int], some (.array .byte)⟩ := by decide +kernel
def QrmCp3_2_0 (Z : State) (a0 : Addr) (ka : ClassId) (c0 : Int32) (c1 : Int32) (h0 : Heap) (n0 : Nat) (v : Option Value) (h : Heap) (L : List Loc) : Prop := ∃ (b : Addr) (k : ClassId), v = some (.ref b) ∧ Fr n0 L ∧ h0.size ≤ b ∧ Keep h0 h [] ∧ Arv Z h b k .byte (4 : Int32) [(.int (own_lo c0)), (.int (own_hi c0)), (.int (own_lo c1)), (.int (own_hi c1))] (.int (0 : Int32))
set_option maxRecDepth 65536 in
set_option maxHeartbeats 40000000 in
theorem rmCp3_2_0 (l : Launch) (Z : State) (av0 : Array Value) (hw : ∀ d ∈ tables_1, d.before av0 Z = true) (ws : List Jvm.Cond) (a0 : Addr) (ka : ClassId) (c0 : Int32) (c1 : Int32) (h0 : Heap) (n0 : Nat) (Z0 : n0 ≤ h0.size) (hA : Arv Z h0 a0 ka .char (2 : Int32) [(.int c0), (.int c1)] (.int (0 : Int32))) (hbg : (255 : Int32) < c0) (hg : 0 ≤ c0.toInt ∧ c0.toInt < 65536) (sA : Sta Z h0 "java/lang/StringUTF16" "$assertionsDisabled" "Z" (.int (1 : Int32))) (sH : Sta Z h0 "java/lang/StringUTF16" "HI_BYTE_SHIFT" "I" (.int (0 : Int32))) (sL : Sta Z h0 "java/lang/StringUTF16" "LO_BYTE_SHIFT" "I" (.int (8 : Int32))) :
    own_Met l mN27 jdk_52_method_16_code 6 (some (.array .byte)) ws ({ frames := 3, cells := 2, slots := 6, locals := 40 } : Room) #[(.ref a0), (.int 0), (.int 2)] Z h0 (QrmCp3_2_0 Z a0 ka c0 c1 h0 n0) := by
  refine MetFree.of_bodySF (plainFor_of_name pn_StringUTF16) hisR ?_
  intro p e s m args below meth c s₁ Bd hml0 hP hK
  obtain ⟨rfl, hZ, hh⟩ := hP
  have hml : c.maxLocals = 6 := hml0
  obtain ⟨hx, hby, hown, hnm, X0, e0⟩ := own_start Bd hml0 hh
  have N0 := Fr.nil n0
  have pre0 : ∀ t, oS p e below s₁ (mkF m 0 #[rv a0, iv 0, iv 2, .unset, .unset, .unset] []) t → Steps p.tables e below (s₁.setTop (entryFrame m #[(.ref a0), (.int 0), (.int 2)] 6)) t := fun t k => castTop (by first | (simp [entryFrame, mkF, argsToLocals, Value.category]; done) | rfl) k
  obtain ⟨T1, h1, k1, X1, e1, E1, A1, st1⟩ := newP X0 hx hZ (hw _ (own_w 15 rfl)) e0 (g := (mkF m 1 #[rv a0, iv 0, iv 2, .unset, .unset, .unset] [(.int 2)])) rfl (hb hby d8_1) rfl (by decide) (cap := 2) (by decide) (by decide) (by decide) (by decide)
  obtain ⟨b1, g1⟩ : ∃ z, z = h0.size := ⟨_, rfl⟩
  rw [← g1] at A1 st1
  have ne_a0_b1 : a0 ≠ b1 := Nat.ne_of_lt (Nat.lt_of_lt_of_le hA.lt (Nat.le_of_eq g1.symm))
  have ge_b1 : n0 ≤ b1 := Nat.le_trans Z0 (Nat.le_of_eq g1.symm)
  have sz_b1 : h0.size ≤ b1 := Nat.le_of_eq g1.symm
  have Z1 : n0 ≤ h1.size := Nat.le_trans Z0 E1.1
  have K1 : Keep h0 h1 [] := (Keep.refl h0 []).ext E1
  have V1 : Arv Z h1 b1 k1 .byte (2 : Int32) [(.int (0 : Int32)), (.int (0 : Int32))] (.int (0 : Int32)) := (Arv.new A1 (by decide)).pad (pad_rep [] (.int (0 : Int32)) 2)
  have f2 := (hA.ext E1)
  obtain ⟨_, T3, Lc3, X3, hQ3, st3⟩ := own_callS (W := 0) (y := mN23) X1 hx hZ hown (hw _ (own_w 41 rfl)) (hw _ (own_w 42 rfl)) (hw _ (own_w 39 rfl)) (hw _ (own_w 43 rfl)) (by decide) (rmCp5_2_0 l Z av0 hw [] a0 b1 ka k1 c0 c1 h1 n0 Z1 f2 V1 ne_a0_b1 ge_b1 hbg) (by decide) (by decide) (g := (mkF m 9 #[rv a0, iv 0, iv 2, rv b1, .unset, .unset] [(.int 2), (.int 0), (.ref b1), (.int 0), (.ref a0)])) rfl (by rw [hml]; rfl) (argsL := [(.ref a0), (.int 0), (.ref b1), (.int 0), (.int 2)]) (rest := []) (lenOf pd__CI_BII_I rfl) rfl (hb hby d8_9) rfl e1 (by decide : 1 + 0 ≤ _) (by decide : 2 + 0 ≤ _)
  obtain ⟨rfl, N3q, K3, V3⟩ := hQ3
  have N3 := Fr.app N0 N3q
  have e3 : T3.heap = T3.heap := rfl
  have Zk3 : n0 ≤ T3.heap.size := Nat.le_trans Z1 K3.1
  have Kk3 : Keep h0 T3.heap [] := K1.trans K3 (allS (Or.inr sz_b1) all0)
  have f4 := (f2.keep K3 (ninS ne_a0_b1 nin0))
  have f5 := (own_stak (sA.ext E1) K3 (allS (own_arns V1) all0))
  have f6 := (own_stak (sH.ext E1) K3 (allS (own_arns V1) all0))
  have f7 := (own_stak (sL.ext E1) K3 (allS (own_arns V1) all0))
  obtain ⟨_, T8, Lc8, X8, hQ8, st8⟩ := own_callS (W := 0) (y := mN26) X3 hx hZ hown (hw _ (own_w 102 rfl)) (hw _ (own_w 103 rfl)) (hw _ (own_w 39 rfl)) (hw _ (own_w 104 rfl)) (by decide) (rmTb_2 l Z av0 hw [] a0 ka c0 c1 T3.heap n0 Zk3 f4 f5 f6 f7) (by decide) (by decide) (g := (mkF m 23 #[rv a0, iv 0, iv 2, rv b1, iv 0, .unset] [(.int 2), (.int 0), (.ref a0)])) rfl (by rw [hml]; rfl) (argsL := [(.ref a0), (.int 0), (.int 2)]) (rest := []) (lenOf pd__CII_B rfl) rfl (hb hby d8_23) rfl e3 (by decide : 1 + 1 ≤ _) (by decide : 2 + 4 ≤ _)
  obtain ⟨b8, kb8, rfl, N8q, gb8, K8, V8⟩ := hQ8
  have N8 := Fr.app N3 N8q
  have e8 : T8.heap = T8.heap := rfl
  have ne_a0_b8 : a0 ≠ b8 := Nat.ne_of_lt (Nat.lt_of_lt_of_le f4.lt gb8)
  have ne_b1_b8 : b1 ≠ b8 := Nat.ne_of_lt (Nat.lt_of_lt_of_le V3.lt gb8)
  have ge_b8 : n0 ≤ b8 := Nat.le_trans Zk3 gb8
  have sz_b8 : h0.size ≤ b8 := Nat.le_trans Kk3.1 gb8
  have Zk8 : n0 ≤ T8.heap.size := Nat.le_trans Zk3 K8.1
  have Kk8 : Keep h0 T8.heap [] := Kk3.trans K8 all0
  have f9 := (own_stak f5 K8 all0)
  have f10 := (own_stak f6 K8 all0)
  have f11 := (own_stak f7 K8 all0)
  obtain ⟨_, T12, Lc12, X12, hQ12, st12⟩ := own_callS (W := 0) (y := mN13) X8 hx hZ hown (hw _ (own_w 112 rfl)) (hw _ (own_w 113 rfl)) (hw _ (own_w 39 rfl)) (hw _ (own_w 114 rfl)) (by decide) (rmGc l Z av0 hw [] b8 kb8 (4 : Int32) [(.int (own_lo c0)), (.int (own_hi c0)), (.int (own_lo c1)), (.int (own_hi c1))] (0 : Int32) (own_lo c0) (own_hi c0) T8.heap n0 Zk8 V8 f9 f10 f11 (by decide) (by decide) rfl rfl) (by decide) (by decide) (g := (mkF m 32 #[rv a0, iv 0, iv 2, rv b1, iv 0, rv b8] [(.int 0), (.ref b8)])) rfl (by rw [hml]; rfl) (argsL := [(.ref b8), (.int 0)]) (rest := []) (lenOf pd__BI_C rfl) rfl (hb hby d8_32) rfl e8 (by decide : 2 + 0 ≤ _) (by decide : 6 + 0 ≤ _)
  obtain ⟨rfl, N12q, hh12⟩ := hQ12
  have N12 := Fr.app N8 N12q
  have e12 : T12.heap = T8.heap := hh12
  have S13 : ∀ t, oS p e below T12 (mkF m 56 #[rv a0, iv 0, iv 2, rv b1, iv 0, rv b8] [(.ref b8)]) t → oS p e below s₁ (mkF m 0 #[rv a0, iv 0, iv 2, .unset, .unset, .unset] []) t := fun t k => id (by
    show oS p e below s₁ (mkF m 0 #[rv a0, iv 0, iv 2, .unset, .unset, .unset] []) _
    refine XS.iloadN X0.here hx rfl (hb hby d8_0) rfl ?_
    refine st1 _ ?_
    refine XS.astoreN X1.here hx rfl (hb hby d8_3) rfl rfl (l' := #[rv a0, iv 0, iv 2, rv b1, .unset, .unset]) rfl ?_
    refine XS.aloadN X1.here hx rfl (hb hby d8_4) rfl rfl ?_
    refine XS.iloadN X1.here hx rfl (hb hby d8_5) rfl ?_
    refine XS.aloadN X1.here hx rfl (hb hby d8_6) rfl rfl ?_
    refine XT.iconstV X1.here hx rfl (0 : Int32) (hb hby d8_7) (by decide) ?_
    refine XS.iloadN X1.here hx rfl (hb hby d8_8) rfl ?_
    refine st3 _ ?_
    refine XS.istore X3.here hx rfl (hb hby d8_12) rfl (l' := #[rv a0, iv 0, iv 2, rv b1, iv 0, .unset]) rfl ?_
    refine XS.iload X3.here hx rfl (hb hby d8_14) rfl ?_
    refine XS.iloadN X3.here hx rfl (hb hby d8_16) rfl ?_
    refine XS.icmpNo X3.here hx rfl (hb hby d8_17) rfl (XT.ii_eq_f (by decide)) ?_
    refine XS.aloadN X3.here hx rfl (hb hby d8_20) rfl rfl ?_
    refine XS.iloadN X3.here hx rfl (hb hby d8_21) rfl ?_
    show oS p e below T3 (mkF m 22 #[rv a0, iv 0, iv 2, rv b1, iv 0, .unset] [(.int 0), (.ref a0)]) _
    refine XS.iloadN X3.here hx rfl (hb hby d8_22) rfl ?_
    refine st8 _ ?_
    refine XS.astore X8.here hx rfl (hb hby d8_26) rfl rfl (l' := #[rv a0, iv 0, iv 2, rv b1, iv 0, rv b8]) rfl ?_
    refine XS.aload X8.here hx rfl (hb hby d8_28) rfl rfl ?_
    refine XS.iload X8.here hx rfl (hb hby d8_30) rfl ?_
    refine st12 _ ?_
    refine XT.sipushV X12.here hx rfl (255 : Int32) (hb hby d8_35) (by decide) ?_
    refine XS.icmpYes X12.here hx rfl (pc0 := 38) (pc' := 54) rfl (hb hby d8_38) rfl (XT.ii_gt_t (by rw [own_gcv c0 hg.1 hg.2]; exact hbg)) (by decide) (by decide) ?_
    refine XS.aload X12.here hx rfl (hb hby d8_54) rfl rfl ?_
    exact k)
  obtain ⟨fs, hr, hrun, hended, hW, hsame⟩ := X12.leave (v := some (.ref b8)) (fun h => by rw [Bd.returns] at h; cases h)
  refine ⟨_, _, pre0 _ (S13 _ ?_), hrun, hended, _, _, rfl, ?_, ⟨_, rfl⟩, hW, hsame.mono (by decide) (by decide)⟩
  · jvm_step X12.here [X12.here.top, hx, (hb hby d8_56), X12.method', Bd.returns, Value.isRef, FieldType.isReference]
    first | (intro acts; rw [hr _ acts rfl rfl rfl]) | rw [hr _ _ rfl rfl rfl]
    exact Steps.refl _
  · show QrmCp3_2_0 Z a0 ka c0 c1 h0 n0 _ T12.heap _
    rw [e12]
    exact ⟨_, _, rfl, N12, sz_b8, Kk8, V8⟩
theorem d9_26 : decode jdk_52_method_21_code 26 = .ok (.aload_n 2, 1) := by decide +kernel
theorem d9_27 : decode jdk_52_method_21_code 27 = .ok (.iload_n 3, 1) := by decide +kernel
theorem d9_28 : decode jdk_52_method_21_code 28 = .ok (.iload 6, 2) := by decide +kernel
theorem d9_30 : decode jdk_52_method_21_code 30 = .ok (.i2b, 1) := by decide +kernel
theorem d9_31 : decode jdk_52_method_21_code 31 = .ok (.bastore, 1) := by decide +kernel
theorem d9_32 : decode jdk_52_method_21_code 32 = .ok (.iinc 1 1, 3) := by decide +kernel
theorem d9_35 : decode jdk_52_method_21_code 35 = .ok (.iinc 3 1, 3) := by decide +kernel
theorem d9_38 : decode jdk_52_method_21_code 38 = .ok (.iinc 5 1, 3) := by decide +kernel
theorem d9_41 : decode jdk_52_method_21_code 41 = .ok (.goto (-38), 3) := by decide +kernel
def QrmCp5_2_1 (Z : State) (a0 : Addr) (a2 : Addr) (ka : ClassId) (kb : ClassId) (c0 : Int32) (c1 : Int32) (h0 : Heap) (n0 : Nat) (v : Option Value) (h : Heap) (L : List Loc) : Prop := v = some (.int (1 : Int32)) ∧ Fr n0 L ∧ Keep h0 h [a2] ∧ Arv Z h a2 kb .byte (2 : Int32) [(.int (own_b c0)), (.int (0 : Int32))] (.int (0 : Int32))
set_option maxRecDepth 65536 in
set_option maxHeartbeats 40000000 in
theorem rmCp5_2_1 (l : Launch) (Z : State) (av0 : Array Value) (hw : ∀ d ∈ tables_1, d.before av0 Z = true) (ws : List Jvm.Cond) (a0 : Addr) (a2 : Addr) (ka : ClassId) (kb : ClassId) (c0 : Int32) (c1 : Int32) (h0 : Heap) (n0 : Nat) (Z0 : n0 ≤ h0.size) (hA : Arv Z h0 a0 ka .char (2 : Int32) [(.int c0), (.int c1)] (.int (0 : Int32))) (hB : Arv Z h0 a2 kb .byte (2 : Int32) [(.int (0 : Int32)), (.int (0 : Int32))] (.int (0 : Int32))) (hne : a0 ≠ a2) (hge : n0 ≤ a2) (hc0 : ¬ (255 : Int32) < c0) (hbg : (255 : Int32) < c1) :
    own_Met l mN23 jdk_52_method_21_code 7 (some .int) ws ({ frames := 0, cells := 0, slots := 0, locals := 0 } : Room) #[(.ref a0), (.int 0), (.ref a2), (.int 0), (.int 2)] Z h0 (QrmCp5_2_1 Z a0 a2 ka kb c0 c1 h0 n0) := by
  refine MetFree.of_bodySF (plainFor_of_name pn_StringUTF16) hisR ?_
  intro p e s m args below meth c s₁ Bd hml0 hP hK
  obtain ⟨rfl, hZ, hh⟩ := hP
  have hml : c.maxLocals = 7 := hml0
  obtain ⟨hx, hby, hown, hnm, X0, e0⟩ := own_start Bd hml0 hh
  have N0 := Fr.nil n0
  have pre0 : ∀ t, oS p e below s₁ (mkF m 0 #[rv a0, iv 0, rv a2, iv 0, iv 2, .unset, .unset] []) t → Steps p.tables e below (s₁.setTop (entryFrame m #[(.ref a0), (.int 0), (.ref a2), (.int 0), (.int 2)] 7)) t := fun t k => castTop (by first | (simp [entryFrame, mkF, argsToLocals, Value.category]; done) | rfl) k
  obtain ⟨cl1, Ar1, qk1, Sz1, Ng1, Hs1, Gs1⟩ := id hA
  have hin1 : ¬ ((0 : Int32) < 0 ∨ cl1.slots.size ≤ ((0 : Int32)).toNatClampNeg) := inb_of Sz1 ⟨by decide, by decide⟩
  have hat1 : cl1.slots[((0 : Int32)).toNatClampNeg]? = some (.int c0) := Hs1.at hin1 rfl
  obtain ⟨cl2, Ar2, qk2, Sz2, Ng2, Hs2, Gs2⟩ := id hB
  have hin2 : ¬ ((0 : Int32) < 0 ∨ cl2.slots.size ≤ ((0 : Int32)).toNatClampNeg) := inb_of Sz2 ⟨by decide, by decide⟩
  obtain ⟨T3, h3, X3, e3, W3, st3⟩ := stB X0 hx hZ e0 Ar2 (j := (0 : Int32)) hin2 (g := (mkF m 31 #[rv a0, iv 0, rv a2, iv 0, iv 2, iv 0, iv c0] [(.int (c0).toInt8.toInt32), (.int 0), (.ref a2)])) rfl rfl (hb hby d9_31)
  have N3 := Fr.snoc X3 N0 hge
  have Z3 : n0 ≤ h3.size := Nat.le_trans Z0 (Nat.le_of_eq W3.size.symm)
  have K3 : Keep h0 h3 [a2] := (Keep.refl h0 [a2]).wr W3 (Or.inl (List.mem_of_getElem? (i := 0) rfl))
  have V3 : Arv Z h3 a2 kb .byte (2 : Int32) [(.int (nar .byte (c0).toInt8.toInt32)), (.int (0 : Int32))] (.int (0 : Int32)) := Arv.set Ar2 qk2 Sz2 Ng2 Hs2 Gs2 (fits_nar_byte _) W3 0 rfl (Nat.le_of_ble_eq_true rfl)
  have f4 := (hA.other W3 hne)
  obtain ⟨cl5, Ar5, qk5, Sz5, Ng5, Hs5, Gs5⟩ := id f4
  have hin5 : ¬ ((1 : Int32) < 0 ∨ cl5.slots.size ≤ ((1 : Int32)).toNatClampNeg) := inb_of Sz5 ⟨by decide, by decide⟩
  have hat5 : cl5.slots[((1 : Int32)).toNatClampNeg]? = some (.int c1) := Hs5.at hin5 rfl
  have S6 : ∀ t, oS p e below T3 (mkF m 25 #[rv a0, iv 1, rv a2, iv 1, iv 2, iv 1, iv c1] [(.int 1)]) t → oS p e below s₁ (mkF m 0 #[rv a0, iv 0, rv a2, iv 0, iv 2, .unset, .unset] []) t := fun t k => id (by
    show oS p e below s₁ (mkF m 0 #[rv a0, iv 0, rv a2, iv 0, iv 2, .unset, .unset] []) _
    refine XT.iconstV X0.here hx rfl (0 : Int32) (hb hby d9_0) (by decide) ?_
    refine XS.istore X0.here hx rfl (hb hby d9_1) rfl (l' := #[rv a0, iv 0, rv a2, iv 0, iv 2, iv 0, .unset]) rfl ?_
    refine XS.iload X0.here hx rfl (hb hby d9_3) rfl ?_
    refine XS.iload X0.here hx rfl (hb hby d9_5) rfl ?_
    refine XS.icmpNo X0.here hx rfl (hb hby d9_7) rfl (XT.ii_ge_f (by decide)) ?_
    refine XS.aloadN X0.here hx rfl (hb hby d9_10) rfl rfl ?_
    refine XS.iloadN X0.here hx rfl (hb hby d9_11) rfl ?_
    refine X0.caload hx (j := (0 : Int32)) (v := (.int c0)) (by rw [e0]; exact Ar1.1) (State.isArrayOf_alike hZ.alike Ar1.2.1) Ar1.2.2 hin1 hat1 (g := (mkF m 12 #[rv a0, iv 0, rv a2, iv 0, iv 2, iv 0, .unset] [(.int 0), (.ref a0)])) rfl rfl (hb hby d9_12) _ ?_
    refine XS.istore X0.here hx rfl (hb hby d9_13) rfl (l' := #[rv a0, iv 0, rv a2, iv 0, iv 2, iv 0, iv c0]) rfl ?_
    refine XS.iload X0.here hx rfl (hb hby d9_15) rfl ?_
    refine XT.sipushV X0.here hx rfl (255 : Int32) (hb hby d9_17) (by decide) ?_
    refine XS.icmpYes X0.here hx rfl (pc0 := 20) (pc' := 26) rfl (hb hby d9_20) rfl (XT.ii_le_t hc0) (by decide) (by decide) ?_
    refine XS.aloadN X0.here hx rfl (hb hby d9_26) rfl rfl ?_
    refine XS.iloadN X0.here hx rfl (hb hby d9_27) rfl ?_
    refine XS.iload X0.here hx rfl (hb hby d9_28) rfl ?_
    show oS p e below s₁ (mkF m 30 #[rv a0, iv 0, rv a2, iv 0, iv 2, iv 0, iv c0] [(.int c0), (.int 0), (.ref a2)]) _
    refine XT.i2b X0.here hx rfl (hb hby d9_30) rfl ?_
    refine st3 _ ?_
    refine XT.iincV X3.here hx rfl (1 : Int32) (hb hby d9_32) (by decide) rfl (l' := #[rv a0, iv 1, rv a2, iv 0, iv 2, iv 0, iv c0]) rfl ?_
    refine XT.iincV X3.here hx rfl (1 : Int32) (hb hby d9_35) (by decide) rfl (l' := #[rv a0, iv 1, rv a2, iv 1, iv 2, iv 0, iv c0]) rfl ?_
    refine XT.iincV X3.here hx rfl (1 : Int32) (hb hby d9_38) (by decide) rfl (l' := #[rv a0, iv 1, rv a2, iv 1, iv 2, iv 1, iv c0]) rfl ?_
    refine XS.goto X3.here hx rfl (pc0 := 41) (pc' := 3) rfl (hb hby d9_41) (by decide) (by decide) ?_
    refine XS.iload X3.here hx rfl (hb hby d9_3) rfl ?_
    refine XS.iload X3.here hx rfl (hb hby d9_5) rfl ?_
    refine XS.icmpNo X3.here hx rfl (hb hby d9_7) rfl (XT.ii_ge_f (by decide)) ?_
    refine XS.aloadN X3.here hx rfl (hb hby d9_10) rfl rfl ?_
    refine XS.iloadN X3.here hx rfl (hb hby d9_11) rfl ?_
    refine X3.caload hx (j := (1 : Int32)) (v := (.int c1)) (by rw [e3]; exact Ar5.1) (State.isArrayOf_alike hZ.alike Ar5.2.1) Ar5.2.2 hin5 hat5 (g := (mkF m 12 #[rv a0, iv 1, rv a2, iv 1, iv 2, iv 1, iv c0] [(.int 1), (.ref a0)])) rfl rfl (hb hby d9_12) _ ?_
    refine XS.istore X3.here hx rfl (hb hby d9_13) rfl (l' := #[rv a0, iv 1, rv a2, iv 1, iv 2, iv 1, iv c1]) rfl ?_
    refine XS.iload X3.here hx rfl (hb hby d9_15) rfl ?_
    refine XT.sipushV X3.here hx rfl (255 : Int32) (hb hby d9_17) (by decide) ?_
    show oS p e below T3 (mkF m 20 #[rv a0, iv 1, rv a2, iv 1, iv 2, iv 1, iv c1] [(.int 255), (.int c1)]) _
    refine XS.icmpNo X3.here hx rfl (hb hby d9_20) rfl (XT.ii_le_f hbg) ?_
    refine XS.iload X3.here hx rfl (hb hby d9_23) rfl ?_
    exact k)
  obtain ⟨fs, hr, hrun, hended, hW, hsame⟩ := X3.leave (v := some (.int 1)) (fun h => by rw [Bd.returns] at h; cases h)
  refine ⟨_, _, pre0 _ (S6 _ ?_), hrun, hended, _, _, rfl, ?_, ⟨_, rfl⟩, hW, hsame.mono (by decide) (by decide)⟩
  · exact retI X3 hx Bd.returns (hb hby d9_25) hr
  · show QrmCp5_2_1 Z a0 a2 ka kb c0 c1 h0 n0 _ T3.heap _
    rw [e3]
    exact ⟨congrArg (fun z => some (Value.int z)) (by decide), N3, K3, V3⟩
def QrmCp3_2_1 (Z : State) (a0 : Addr) (ka : ClassId) (c0 : Int32) (c1 : Int32) (h0 : Heap) (n0 : Nat) (v : Option Value) (h : Heap) (L : List Loc) : Prop := ∃ (b : Addr) (k : ClassId), v = some (.ref b) ∧ Fr n0 L ∧ h0.size ≤ b ∧ Keep h0 h [] ∧ Arv Z h b k .byte (4 : Int32) [(.int (own_lo c0)), (.int (own_hi c0)), (.int (own_lo c1)), (.int (own_hi c1))] (.int (0 : Int32))
set_option maxRecDepth 65536 in
set_option maxHeartbeats 40000000 in
theorem rmCp3_2_1 (l : Launch) (Z : State) (av0 : Array Value) (hw : ∀ d ∈ tables_1, d.before av0 Z = true) (ws : List Jvm.Cond) (a0 : Addr) (ka : ClassId) (c0 : Int32) (c1 : Int32) (h0 : Heap) (n0 : Nat) (Z0 : n0 ≤ h0.size) (hA : Arv Z h0 a0 ka .char (2 : Int32) [(.int c0), (.int c1)] (.int (0 : Int32))) (hc0 : ¬ (255 : Int32) < c0) (hbg : (255 : Int32) < c1) (hg : 0 ≤ c1.toInt ∧ c1.toInt < 65536) (sA : Sta Z h0 "java/lang/StringUTF16" "$assertionsDisabled" "Z" (.int (1 : Int32))) (sH : Sta Z h0 "java/lang/StringUTF16" "HI_BYTE_SHIFT" "I" (.int (0 : Int32))) (sL : Sta Z h0 "java/lang/StringUTF16" "LO_BYTE_SHIFT" "I" (.int (8 : Int32))) :
    own_Met l mN27 jdk_52_method_16_code 6 (some (.array .byte)) ws ({ frames := 3, cells := 2, slots := 6, locals := 40 } : Room) #[(.ref a0), (.int 0), (.int 2)] Z h0 (QrmCp3_2_1 Z a0 ka c0 c1 h0 n0) := by
  refine MetFree.of_bodySF (plainFor_of_name pn_StringUTF16) hisR ?_
  intro p e s m args below meth c s₁ Bd hml0 hP hK
  obtain ⟨rfl, hZ, hh⟩ := hP
  have hml : c.maxLocals = 6 := hml0
  obtain ⟨hx, hby, hown, hnm, X0, e0⟩ := own_start Bd hml0 hh
  have N0 := Fr.nil n0
  have pre0 : ∀ t, oS p e below s₁ (mkF m 0 #[rv a0, iv 0, iv 2, .unset, .unset, .unset] []) t → Steps p.tables e below (s₁.setTop (entryFrame m #[(.ref a0), (.int 0), (.int 2)] 6)) t := fun t k => castTop (by first | (simp [entryFrame, mkF, argsToLocals, Value.category]; done) | rfl) k
  obtain ⟨T1, h1, k1, X1, e1, E1, A1, st1⟩ := newP X0 hx hZ (hw _ (own_w 15 rfl)) e0 (g := (mkF m 1 #[rv a0, iv 0, iv 2, .unset, .unset, .unset] [(.int 2)])) rfl (hb hby d8_1) rfl (by decide) (cap := 2) (by decide) (by decide) (by decide) (by decide)
  obtain ⟨b1, g1⟩ : ∃ z, z = h0.size := ⟨_, rfl⟩
  rw [← g1] at A1 st1
  have ne_a0_b1 : a0 ≠ b1 := Nat.ne_of_lt (Nat.lt_of_lt_of_le hA.lt (Nat.le_of_eq g1.symm))
  have ge_b1 : n0 ≤ b1 := Nat.le_trans Z0 (Nat.le_of_eq g1.symm)
  have sz_b1 : h0.size ≤ b1 := Nat.le_of_eq g1.symm
  have Z1 : n0 ≤ h1.size := Nat.le_trans Z0 E1.1
  have K1 : Keep h0 h1 [] := (Keep.refl h0 []).ext E1
  have V1 : Arv Z h1 b1 k1 .byte (2 : Int32) [(.int (0 : Int32)), (.int (0 : Int32))] (.int (0 : Int32)) := (Arv.new A1 (by decide)).pad (pad_rep [] (.int (0 : Int32)) 2)
  have f2 := (hA.ext E1)
  obtain ⟨_, T3, Lc3, X3, hQ3, st3⟩ := own_callS (W := 0) (y := mN23) X1 hx hZ hown (hw _ (own_w 41 rfl)) (hw _ (own_w 42 rfl)) (hw _ (own_w 39 rfl)) (hw _ (own_w 43 rfl)) (by decide) (rmCp5_2_1 l Z av0 hw [] a0 b1 ka k1 c0 c1 h1 n0 Z1 f2 V1 ne_a0_b1 ge_b1 hc0 hbg) (by decide) (by decide) (g := (mkF m 9 #[rv a0, iv 0, iv 2, rv b1, .unset, .unset] [(.int 2), (.int 0), (.ref b1), (.int 0), (.ref a0)])) rfl (by rw [hml]; rfl) (argsL := [(.ref a0), (.int 0), (.ref b1), (.int 0), (.int 2)]) (rest := []) (lenOf pd__CI_BII_I rfl) rfl (hb hby d8_9) rfl e1 (by decide : 1 + 0 ≤ _) (by decide : 2 + 0 ≤ _)
  obtain ⟨rfl, N3q, K3, V3⟩ := hQ3
  have N3 := Fr.app N0 N3q
  have e3 : T3.heap = T3.heap := rfl
  have Zk3 : n0 ≤ T3.heap.size := Nat.le_trans Z1 K3.1
  have Kk3 : Keep h0 T3.heap [] := K1.trans K3 (allS (Or.inr sz_b1) all0)
  have f4 := (f2.keep K3 (ninS ne_a0_b1 nin0))
  have f5 := (own_stak (sA.ext E1) K3 (allS (own_arns V1) all0))
  have f6 := (own_stak (sH.ext E1) K3 (allS (own_arns V1) all0))
  have f7 := (own_stak (sL.ext E1) K3 (allS (own_arns V1) all0))
  obtain ⟨_, T8, Lc8, X8, hQ8, st8⟩ := own_callS (W := 0) (y := mN26) X3 hx hZ hown (hw _ (own_w 102 rfl)) (hw _ (own_w 103 rfl)) (hw _ (own_w 39 rfl)) (hw _ (own_w 104 rfl)) (by decide) (rmTb_2 l Z av0 hw [] a0 ka c0 c1 T3.heap n0 Zk3 f4 f5 f6 f7) (by decide) (by decide) (g := (mkF m 23 #[rv a0, iv 0, iv 2, rv b1, iv 1, .unset] [(.int 2), (.int 0), (.ref a0)])) rfl (by rw [hml]; rfl) (argsL := [(.ref a0), (.int 0), (.int 2)]) (rest := []) (lenOf pd__CII_B rfl) rfl (hb hby d8_23) rfl e3 (by decide : 1 + 1 ≤ _) (by decide : 2 + 4 ≤ _)
  obtain ⟨b8, kb8, rfl, N8q, gb8, K8, V8⟩ := hQ8
  have N8 := Fr.app N3 N8q
  have e8 : T8.heap = T8.heap := rfl
  have ne_a0_b8 : a0 ≠ b8 := Nat.ne_of_lt (Nat.lt_of_lt_of_le f4.lt gb8)
  have ne_b1_b8 : b1 ≠ b8 := Nat.ne_of_lt (Nat.lt_of_lt_of_le V3.lt gb8)
  have ge_b8 : n0 ≤ b8 := Nat.le_trans Zk3 gb8
  have sz_b8 : h0.size ≤ b8 := Nat.le_trans Kk3.1 gb8
  have Zk8 : n0 ≤ T8.heap.size := Nat.le_trans Zk3 K8.1
  have Kk8 : Keep h0 T8.heap [] := Kk3.trans K8 all0
  have f9 := (own_stak f5 K8 all0)
  have f10 := (own_stak f6 K8 all0)
  have f11 := (own_stak f7 K8 all0)
  obtain ⟨_, T12, Lc12, X12, hQ12, st12⟩ := own_callS (W := 0) (y := mN13) X8 hx hZ hown (hw _ (own_w 112 rfl)) (hw _ (own_w 113 rfl)) (hw _ (own_w 39 rfl)) (hw _ (own_w 114 rfl)) (by decide) (rmGc l Z av0 hw [] b8 kb8 (4 : Int32) [(.int (own_lo c0)), (.int (own_hi c0)), (.int (own_lo c1)), (.int (own_hi c1))] (1 : Int32) (own_lo c1) (own_hi c1) T8.heap n0 Zk8 V8 f9 f10 f11 (by decide) (by decide) rfl rfl) (by decide) (by decide) (g := (mkF m 32 #[rv a0, iv 0, iv 2, rv b1, iv 1, rv b8] [(.int 1), (.ref b8)])) rfl (by rw [hml]; rfl) (argsL := [(.ref b8), (.int 1)]) (rest := []) (lenOf pd__BI_C rfl) rfl (hb hby d8_32) rfl e8 (by decide : 2 + 0 ≤ _) (by decide : 6 + 0 ≤ _)
  obtain ⟨rfl, N12q, hh12⟩ := hQ12
  have N12 := Fr.app N8 N12q
  have e12 : T12.heap = T8.heap := hh12
  have S13 : ∀ t, oS p e below T12 (mkF m 56 #[rv a0, iv 0, iv 2, rv b1, iv 1, rv b8] [(.ref b8)]) t → oS p e below s₁ (mkF m 0 #[rv a0, iv 0, iv 2, .unset, .unset, .unset] []) t := fun t k => id (by
    show oS p e below s₁ (mkF m 0 #[rv a0, iv 0, iv 2, .unset, .unset, .unset] []) _
    refine XS.iloadN X0.here hx rfl (hb hby d8_0) rfl ?_
    refine st1 _ ?_
    refine XS.astoreN X1.here hx rfl (hb hby d8_3) rfl rfl (l' := #[rv a0, iv 0, iv 2, rv b1, .unset, .unset]) rfl ?_
    refine XS.aloadN X1.here hx rfl (hb hby d8_4) rfl rfl ?_
    refine XS.iloadN X1.here hx rfl (hb hby d8_5) rfl ?_
    refine XS.aloadN X1.here hx rfl (hb hby d8_6) rfl rfl ?_
    refine XT.iconstV X1.here hx rfl (0 : Int32) (hb hby d8_7) (by decide) ?_
    refine XS.iloadN X1.here hx rfl (hb hby d8_8) rfl ?_
    refine st3 _ ?_
    refine XS.istore X3.here hx rfl (hb hby d8_12) rfl (l' := #[rv a0, iv 0, iv 2, rv b1, iv 1, .unset]) rfl ?_
    refine XS.iload X3.here hx rfl (hb hby d8_14) rfl ?_
    refine XS.iloadN X3.here hx rfl (hb hby d8_16) rfl ?_
    refine XS.icmpNo X3.here hx rfl (hb hby d8_17) rfl (XT.ii_eq_f (by decide)) ?_
    refine XS.aloadN X3.here hx rfl (hb hby d8_20) rfl rfl ?_
    refine XS.iloadN X3.here hx rfl (hb hby d8_21) rfl ?_
    show oS p e below T3 (mkF m 22 #[rv a0, iv 0, iv 2, rv b1, iv 1, .unset] [(.int 0), (.ref a0)]) _
    refine XS.iloadN X3.here hx rfl (hb hby d8_22) rfl ?_
    refine st8 _ ?_
    refine XS.astore X8.here hx rfl (hb hby d8_26) rfl rfl (l' := #[rv a0, iv 0, iv 2, rv b1, iv 1, rv b8]) rfl ?_
    refine XS.aload X8.here hx rfl (hb hby d8_28) rfl rfl ?_
    refine XS.iload X8.here hx rfl (hb hby d8_30) rfl ?_
    refine st12 _ ?_
    refine XT.sipushV X12.here hx rfl (255 : Int32) (hb hby d8_35) (by decide) ?_
    refine XS.icmpYes X12.here hx rfl (pc0 := 38) (pc' := 54) rfl (hb hby d8_38) rfl (XT.ii_gt_t (by rw [own_gcv c1 hg.1 hg.2]; exact hbg)) (by decide) (by decide) ?_
    refine XS.aload X12.here hx rfl (hb hby d8_54) rfl rfl ?_
    exact k)
  obtain ⟨fs, hr, hrun, hended, hW, hsame⟩ := X12.leave (v := some (.ref b8)) (fun h => by rw [Bd.returns] at h; cases h)
  refine ⟨_, _, pre0 _ (S13 _ ?_), hrun, hended, _, _, rfl, ?_, ⟨_, rfl⟩, hW, hsame.mono (by decide) (by decide)⟩
  · jvm_step X12.here [X12.here.top, hx, (hb hby d8_56), X12.method', Bd.returns, Value.isRef, FieldType.isReference]
    first | (intro acts; rw [hr _ acts rfl rfl rfl]) | rw [hr _ _ rfl rfl rfl]
    exact Steps.refl _
  · show QrmCp3_2_1 Z a0 ka c0 c1 h0 n0 _ T12.heap _
    rw [e12]
    exact ⟨_, _, rfl, N12, sz_b8, Kk8, V8⟩
theorem d9_44 : decode jdk_52_method_21_code 44 = .ok (.iload 4, 2) := by decide +kernel
theorem d9_46 : decode jdk_52_method_21_code 46 = .ok (.ireturn, 1) := by decide +kernel
def QrmCp5_2_2 (Z : State) (a0 : Addr) (a2 : Addr) (ka : ClassId) (kb : ClassId) (c0 : Int32) (c1 : Int32) (h0 : Heap) (n0 : Nat) (v : Option Value) (h : Heap) (L : List Loc) : Prop := v = some (.int (2 : Int32)) ∧ Fr n0 L ∧ Keep h0 h [a2] ∧ Arv Z h a2 kb .byte (2 : Int32) [(.int (own_b c0)), (.int (own_b c1))] (.int (0 : Int32))
set_option maxRecDepth 65536 in
set_option maxHeartbeats 40000000 in
theorem rmCp5_2_2 (l : Launch) (Z : State) (av0 : Array Value) (hw : ∀ d ∈ tables_1, d.before av0 Z = true) (ws : List Jvm.Cond) (a0 : Addr) (a2 : Addr) (ka : ClassId) (kb : ClassId) (c0 : Int32) (c1 : Int32) (h0 : Heap) (n0 : Nat) (Z0 : n0 ≤ h0.size) (hA : Arv Z h0 a0 ka .char (2 : Int32) [(.int c0), (.int c1)] (.int (0 : Int32))) (hB : Arv Z h0 a2 kb .byte (2 : Int32) [(.int (0 : Int32)), (.int (0 : Int32))] (.int (0 : Int32))) (hne : a0 ≠ a2) (hge : n0 ≤ a2) (hc0 : ¬ (255 : Int32) < c0) (hc1 : ¬ (255 : Int32) < c1) :
    own_Met l mN23 jdk_52_method_21_code 7 (some .int) ws ({ frames := 0, cells := 0, slots := 0, locals := 0 } : Room) #[(.ref a0), (.int 0), (.ref a2), (.int 0), (.int 2)] Z h0 (QrmCp5_2_2 Z a0 a2 ka kb c0 c1 h0 n0) := by
  refine MetFree.of_bodySF (plainFor_of_name pn_StringUTF16) hisR ?_
  intro p e s m args below meth c s₁ Bd hml0 hP hK
  obtain ⟨rfl, hZ, hh⟩ := hP
  have hml : c.maxLocals = 7 := hml0
  obtain ⟨hx, hby, hown, hnm, X0, e0⟩ := own_start Bd hml0 hh
  have N0 := Fr.nil n0
  have pre0 : ∀ t, oS p e below s₁ (mkF m 0 #[rv a0, iv 0, rv a2, iv 0, iv 2, .unset, .unset] []) t → Steps p.tables e below (s₁.setTop (entryFrame m #[(.ref a0), (.int 0), (.ref a2), (.int 0), (.int 2)] 7)) t := fun t k => castTop (by first | (simp [entryFrame, mkF, argsToLocals, Value.category]; done) | rfl) k
  obtain ⟨cl1, Ar1, qk1, Sz1, Ng1, Hs1, Gs1⟩ := id hA
  have hin1 : ¬ ((0 : Int32) < 0 ∨ cl1.slots.size ≤ ((0 : Int32)).toNatClampNeg) := inb_of Sz1 ⟨by decide, by decide⟩
  have hat1 : cl1.slots[((0 : Int32)).toNatClampNeg]? = some (.int c0) := Hs1.at hin1 rfl
  obtain ⟨cl2, Ar2, qk2, Sz2, Ng2, Hs2, Gs2⟩ := id hB
  have hin2 : ¬ ((0 : Int32) < 0 ∨ cl2.slots.size ≤ ((0 : Int32)).toNatClampNeg) := inb_of Sz2 ⟨by decide, by decide⟩
  obtain ⟨T3, h3, X3, e3, W3, st3⟩ := stB X0 hx hZ e0 Ar2 (j := (0 : Int32)) hin2 (g := (mkF m 31 #[rv a0, iv 0, rv a2, iv 0, iv 2, iv 0, iv c0] [(.int (c0).toInt8.toInt32), (.int 0), (.ref a2)])) rfl rfl (hb hby d9_31)
  have N3 := Fr.snoc X3 N0 hge
  have Z3 : n0 ≤ h3.size := Nat.le_trans Z0 (Nat.le_of_eq W3.size.symm)
  have K3 : Keep h0 h3 [a2] := (Keep.refl h0 [a2]).wr W3 (Or.inl (List.mem_of_getElem? (i := 0) rfl))
  have V3 : Arv Z h3 a2 kb .byte (2 : Int32) [(.int (nar .byte (c0).toInt8.toInt32)), (.int (0 : Int32))] (.int (0 : Int32)) := Arv.set Ar2 qk2 Sz2 Ng2 Hs2 Gs2 (fits_nar_byte _) W3 0 rfl (Nat.le_of_ble_eq_true rfl)
  have f4 := (hA.other W3 hne)
  obtain ⟨cl5, Ar5, qk5, Sz5, Ng5, Hs5, Gs5⟩ := id f4
  have hin5 : ¬ ((1 : Int32) < 0 ∨ cl5.slots.size ≤ ((1 : Int32)).toNatClampNeg) := inb_of Sz5 ⟨by decide, by decide⟩
  have hat5 : cl5.slots[((1 : Int32)).toNatClampNeg]? = some (.int c1) := Hs5.at hin5 rfl
  obtain ⟨cl6, Ar6, qk6, Sz6, Ng6, Hs6, Gs6⟩ := id V3
  have hin6 : ¬ ((1 : Int32) < 0 ∨ cl6.slots.size ≤ ((1 : Int32)).toNatClampNeg) := inb_of Sz6 ⟨by decide, by decide⟩
  obtain ⟨T7, h7, X7, e7, W7, st7⟩ := stB X3 hx hZ e3 Ar6 (j := (1 : Int32)) hin6 (g := (mkF m 31 #[rv a0, iv 1, rv a2, iv 1, iv 2, iv 1, iv c1] [(.int (c1).toInt8.toInt32), (.int 1), (.ref a2)])) rfl rfl (hb hby d9_31)
  have N7 := Fr.snoc X7 N3 hge
  have Z7 : n0 ≤ h7.size := Nat.le_trans Z3 (Nat.le_of_eq W7.size.symm)
  have K7 : Keep h0 h7 [a2] := K3.wr W7 (Or.inl (List.mem_of_getElem? (i := 0) rfl))
  have V7 : Arv Z h7 a2 kb .byte (2 : Int32) [(.int (nar .byte (c0).toInt8.toInt32)), (.int (nar .byte (c1).toInt8.toInt32))] (.int (0 : Int32)) := Arv.set Ar6 qk6 Sz6 Ng6 Hs6 Gs6 (fits_nar_byte _) W7 1 rfl (Nat.le_of_ble_eq_true rfl)
  have S8 : ∀ t, oS p e below T7 (mkF m 46 #[rv a0, iv 2, rv a2, iv 2, iv 2, iv 2, iv c1] [(.int 2)]) t → oS p e below s₁ (mkF m 0 #[rv a0, iv 0, rv a2, iv 0, iv 2, .unset, .unset] []) t := fun t k => id (by
    show oS p e below s₁ (mkF m 0 #[rv a0, iv 0, rv a2, iv 0, iv 2, .unset, .unset] []) _
    refine XT.iconstV X0.here hx rfl (0 : Int32) (hb hby d9_0) (by decide) ?_
    refine XS.istore X0.here hx rfl (hb hby d9_1) rfl (l' := #[rv a0, iv 0, rv a2, iv 0, iv 2, iv 0, .unset]) rfl ?_
    refine XS.iload X0.here hx rfl (hb hby d9_3) rfl ?_
    refine XS.iload X0.here hx rfl (hb hby d9_5) rfl ?_
    refine XS.icmpNo X0.here hx rfl (hb hby d9_7) rfl (XT.ii_ge_f (by decide)) ?_
    refine XS.aloadN X0.here hx rfl (hb hby d9_10) rfl rfl ?_
    refine XS.iloadN X0.here hx rfl (hb hby d9_11) rfl ?_
    refine X0.caload hx (j := (0 : Int32)) (v := (.int c0)) (by rw [e0]; exact Ar1.1) (State.isArrayOf_alike hZ.alike Ar1.2.1) Ar1.2.2 hin1 hat1 (g := (mkF m 12 #[rv a0, iv 0, rv a2, iv 0, iv 2, iv 0, .unset] [(.int 0), (.ref a0)])) rfl rfl (hb hby d9_12) _ ?_
    refine XS.istore X0.here hx rfl (hb hby d9_13) rfl (l' := #[rv a0, iv 0, rv a2, iv 0, iv 2, iv 0, iv c0]) rfl ?_
    refine XS.iload X0.here hx rfl (hb hby d9_15) rfl ?_
    refine XT.sipushV X0.here hx rfl (255 : Int32) (hb hby d9_17) (by decide) ?_
    refine XS.icmpYes X0.here hx rfl (pc0 := 20) (pc' := 26) rfl (hb hby d9_20) rfl (XT.ii_le_t hc0) (by decide) (by decide) ?_
    refine XS.aloadN X0.here hx rfl (hb hby d9_26) rfl rfl ?_
    refine XS.iloadN X0.here hx rfl (hb hby d9_27) rfl ?_
    refine XS.iload X0.here hx rfl (hb hby d9_28) rfl ?_
    show oS p e below s₁ (mkF m 30 #[rv a0, iv 0, rv a2, iv 0, iv 2, iv 0, iv c0] [(.int c0), (.int 0), (.ref a2)]) _
    refine XT.i2b X0.here hx rfl (hb hby d9_30) rfl ?_
    refine st3 _ ?_
    refine XT.iincV X3.here hx rfl (1 : Int32) (hb hby d9_32) (by decide) rfl (l' := #[rv a0, iv 1, rv a2, iv 0, iv 2, iv 0, iv c0]) rfl ?_
    refine XT.iincV X3.here hx rfl (1 : Int32) (hb hby d9_35) (by decide) rfl (l' := #[rv a0, iv 1, rv a2, iv 1, iv 2, iv 0, iv c0]) rfl ?_
    refine XT.iincV X3.here hx rfl (1 : Int32) (hb hby d9_38) (by decide) rfl (l' := #[rv a0, iv 1, rv a2, iv 1, iv 2, iv 1, iv c0]) rfl ?_
    refine XS.goto X3.here hx rfl (pc0 := 41) (pc' := 3) rfl (hb hby d9_41) (by decide) (by decide) ?_
    refine XS.iload X3.here hx rfl (hb hby d9_3) rfl ?_
    refine XS.iload X3.here hx rfl (hb hby d9_5) rfl ?_
    refine XS.icmpNo X3.here hx rfl (hb hby d9_7) rfl (XT.ii_ge_f (by decide)) ?_
    refine XS.aloadN X3.here hx rfl (hb hby d9_10) rfl rfl ?_
    refine XS.iloadN X3.here hx rfl (hb hby d9_11) rfl ?_
    refine X3.caload hx (j := (1 : Int32)) (v := (.int c1)) (by rw [e3]; exact Ar5.1) (State.isArrayOf_alike hZ.alike Ar5.2.1) Ar5.2.2 hin5 hat5 (g := (mkF m 12 #[rv a0, iv 1, rv a2, iv 1, iv 2, iv 1, iv c0] [(.int 1), (.ref a0)])) rfl rfl (hb hby d9_12) _ ?_
    refine XS.istore X3.here hx rfl (hb hby d9_13) rfl (l' := #[rv a0, iv 1, rv a2, iv 1, iv 2, iv 1, iv c1]) rfl ?_
    refine XS.iload X3.here hx rfl (hb hby d9_15) rfl ?_
    refine XT.sipushV X3.here hx rfl (255 : Int32) (hb hby d9_17) (by decide) ?_
    show oS p e below T3 (mkF m 20 #[rv a0, iv 1, rv a2, iv 1, iv 2, iv 1, iv c1] [(.int 255), (.int c1)]) _
    refine XS.icmpYes X3.here hx rfl (pc0 := 20) (pc' := 26) rfl (hb hby d9_20) rfl (XT.ii_le_t hc1) (by decide) (by decide) ?_
    refine XS.aloadN X3.here hx rfl (hb hby d9_26) rfl rfl ?_
    refine XS.iloadN X3.here hx rfl (hb hby d9_27) rfl ?_
    refine XS.iload X3.here hx rfl (hb hby d9_28) rfl ?_
    refine XT.i2b X3.here hx rfl (hb hby d9_30) rfl ?_
    refine st7 _ ?_
    refine XT.iincV X7.here hx rfl (1 : Int32) (hb hby d9_32) (by decide) rfl (l' := #[rv a0, iv 2, rv a2, iv 1, iv 2, iv 1, iv c1]) rfl ?_
    refine XT.iincV X7.here hx rfl (1 : Int32) (hb hby d9_35) (by decide) rfl (l' := #[rv a0, iv 2, rv a2, iv 2, iv 2, iv 1, iv c1]) rfl ?_
    refine XT.iincV X7.here hx rfl (1 : Int32) (hb hby d9_38) (by decide) rfl (l' := #[rv a0, iv 2, rv a2, iv 2, iv 2, iv 2, iv c1]) rfl ?_
    refine XS.goto X7.here hx rfl (pc0 := 41) (pc' := 3) rfl (hb hby d9_41) (by decide) (by decide) ?_
    refine XS.iload X7.here hx rfl (hb hby d9_3) rfl ?_
    refine XS.iload X7.here hx rfl (hb hby d9_5) rfl ?_
    refine XS.icmpYes X7.here hx rfl (pc0 := 7) (pc' := 44) rfl (hb hby d9_7) rfl (XT.ii_ge_t (by decide)) (by decide) (by decide) ?_
    refine XS.iload X7.here hx rfl (hb hby d9_44) rfl ?_
    exact k)
  obtain ⟨fs, hr, hrun, hended, hW, hsame⟩ := X7.leave (v := some (.int 2)) (fun h => by rw [Bd.returns] at h; cases h)
  refine ⟨_, _, pre0 _ (S8 _ ?_), hrun, hended, _, _, rfl, ?_, ⟨_, rfl⟩, hW, hsame.mono (by decide) (by decide)⟩
  · exact retI X7 hx Bd.returns (hb hby d9_46) hr
  · show QrmCp5_2_2 Z a0 a2 ka kb c0 c1 h0 n0 _ T7.heap _
    rw [e7]
    exact ⟨congrArg (fun z => some (Value.int z)) (by decide), N7, K7, V7⟩
theorem d8_57 : decode jdk_52_method_16_code 57 = .ok (.aload_n 3, 1) := by decide +kernel
theorem d8_58 : decode jdk_52_method_16_code 58 = .ok (.areturn, 1) := by decide +kernel
def QrmCp3_2_2 (Z : State) (a0 : Addr) (ka : ClassId) (c0 : Int32) (c1 : Int32) (h0 : Heap) (n0 : Nat) (v : Option Value) (h : Heap) (L : List Loc) : Prop := ∃ (b : Addr) (k : ClassId), v = some (.ref b) ∧ Fr n0 L ∧ h0.size ≤ b ∧ Keep h0 h [] ∧ Arv Z h b k .byte (2 : Int32) [(.int (own_b c0)), (.int (own_b c1))] (.int (0 : Int32))
set_option maxRecDepth 65536 in
set_option maxHeartbeats 40000000 in
theorem rmCp3_2_2 (l : Launch) (Z : State) (av0 : Array Value) (hw : ∀ d ∈ tables_1, d.before av0 Z = true) (ws : List Jvm.Cond) (a0 : Addr) (ka : ClassId) (c0 : Int32) (c1 : Int32) (h0 : Heap) (n0 : Nat) (Z0 : n0 ≤ h0.size) (hA : Arv Z h0 a0 ka .char (2 : Int32) [(.int c0), (.int c1)] (.int (0 : Int32))) (hc0 : ¬ (255 : Int32) < c0) (hc1 : ¬ (255 : Int32) < c1) :
    own_Met l mN27 jdk_52_method_16_code 6 (some (.array .byte)) ws ({ frames := 3, cells := 2, slots := 6, locals := 40 } : Room) #[(.ref a0), (.int 0), (.int 2)] Z h0 (QrmCp3_2_2 Z a0 ka c0 c1 h0 n0) := by
  refine MetFree.of_bodySF (plainFor_of_name pn_StringUTF16) hisR ?_
  intro p e s m args below meth c s₁ Bd hml0 hP hK
  obtain ⟨rfl, hZ, hh⟩ := hP
  have hml : c.maxLocals = 6 := hml0
  obtain ⟨hx, hby, hown, hnm, X0, e0⟩ := own_start Bd hml0 hh
  have N0 := Fr.nil n0
  have pre0 : ∀ t, oS p e below s₁ (mkF m 0 #[rv a0, iv 0, iv 2, .unset, .unset, .unset] []) t → Steps p.tables e below (s₁.setTop (entryFrame m #[(.ref a0), (.int 0), (.int 2)] 6)) t := fun t k => castTop (by first | (simp [entryFrame, mkF, argsToLocals, Value.category]; done) | rfl) k
  obtain ⟨T1, h1, k1, X1, e1, E1, A1, st1⟩ := newP X0 hx hZ (hw _ (own_w 15 rfl)) e0 (g := (mkF m 1 #[rv a0, iv 0, iv 2, .unset, .unset, .unset] [(.int 2)])) rfl (hb hby d8_1) rfl (by decide) (cap := 2) (by decide) (by decide) (by decide) (by decide)
  obtain ⟨b1, g1⟩ : ∃ z, z = h0.size := ⟨_, rfl⟩
  rw [← g1] at A1 st1
  have ne_a0_b1 : a0 ≠ b1 := Nat.ne_of_lt (Nat.lt_of_lt_of_le hA.lt (Nat.le_of_eq g1.symm))
  have ge_b1 : n0 ≤ b1 := Nat.le_trans Z0 (Nat.le_of_eq g1.symm)
  have sz_b1 : h0.size ≤ b1 := Nat.le_of_eq g1.symm
  have Z1 : n0 ≤ h1.size := Nat.le_trans Z0 E1.1
  have K1 : Keep h0 h1 [] := (Keep.refl h0 []).ext E1
  have V1 : Arv Z h1 b1 k1 .byte (2 : Int32) [(.int (0 : Int32)), (.int (0 : Int32))] (.int (0 : Int32)) := (Arv.new A1 (by decide)).pad (pad_rep [] (.int (0 : Int32)) 2)
  have f2 := (hA.ext E1)
  obtain ⟨_, T3, Lc3, X3, hQ3, st3⟩ := own_callS (W := 0) (y := mN23) X1 hx hZ hown (hw _ (own_w 41 rfl)) (hw _ (own_w 42 rfl)) (hw _ (own_w 39 rfl)) (hw _ (own_w 43 rfl)) (by decide) (rmCp5_2_2 l Z av0 hw [] a0 b1 ka k1 c0 c1 h1 n0 Z1 f2 V1 ne_a0_b1 ge_b1 hc0 hc1) (by decide) (by decide) (g := (mkF m 9 #[rv a0, iv 0, iv 2, rv b1, .unset, .unset] [(.int 2), (.int 0), (.ref b1), (.int 0), (.ref a0)])) rfl (by rw [hml]; rfl) (argsL := [(.ref a0), (.int 0), (.ref b1), (.int 0), (.int 2)]) (rest := []) (lenOf pd__CI_BII_I rfl) rfl (hb hby d8_9) rfl e1 (by decide : 1 + 0 ≤ _) (by decide : 2 + 0 ≤ _)
  obtain ⟨rfl, N3q, K3, V3⟩ := hQ3
  have N3 := Fr.app N0 N3q
  have e3 : T3.heap = T3.heap := rfl
  have Zk3 : n0 ≤ T3.heap.size := Nat.le_trans Z1 K3.1
  have Kk3 : Keep h0 T3.heap [] := K1.trans K3 (allS (Or.inr sz_b1) all0)
  have S4 : ∀ t, oS p e below T3 (mkF m 58 #[rv a0, iv 0, iv 2, rv b1, iv 2, .unset] [(.ref b1)]) t → oS p e below s₁ (mkF m 0 #[rv a0, iv 0, iv 2, .unset, .unset, .unset] []) t := fun t k => id (by
    show oS p e below s₁ (mkF m 0 #[rv a0, iv 0, iv 2, .unset, .unset, .unset] []) _
    refine XS.iloadN X0.here hx rfl (hb hby d8_0) rfl ?_
    refine st1 _ ?_
    refine XS.astoreN X1.here hx rfl (hb hby d8_3) rfl rfl (l' := #[rv a0, iv 0, iv 2, rv b1, .unset, .unset]) rfl ?_
    refine XS.aloadN X1.here hx rfl (hb hby d8_4) rfl rfl ?_
    refine XS.iloadN X1.here hx rfl (hb hby d8_5) rfl ?_
    refine XS.aloadN X1.here hx rfl (hb hby d8_6) rfl rfl ?_
    refine XT.iconstV X1.here hx rfl (0 : Int32) (hb hby d8_7) (by decide) ?_
    refine XS.iloadN X1.here hx rfl (hb hby d8_8) rfl ?_
    refine st3 _ ?_
    refine XS.istore X3.here hx rfl (hb hby d8_12) rfl (l' := #[rv a0, iv 0, iv 2, rv b1, iv 2, .unset]) rfl ?_
    refine XS.iload X3.here hx rfl (hb hby d8_14) rfl ?_
    refine XS.iloadN X3.here hx rfl (hb hby d8_16) rfl ?_
    refine XS.icmpYes X3.here hx rfl (pc0 := 17) (pc' := 57) rfl (hb hby d8_17) rfl (XT.ii_eq_t (by decide)) (by decide) (by decide) ?_
    refine XS.aloadN X3.here hx rfl (hb hby d8_57) rfl rfl ?_
    exact k)
  obtain ⟨fs, hr, hrun, hended, hW, hsame⟩ := X3.leave (v := some (.ref b1)) (fun h => by rw [Bd.returns] at h; cases h)
  refine ⟨_, _, pre0 _ (S4 _ ?_), hrun, hended, _, _, rfl, ?_, ⟨_, rfl⟩, hW, hsame.mono (by decide) (by decide)⟩
  · jvm_step X3.here [X3.here.top, hx, (hb hby d8_58), X3.method', Bd.returns, Value.isRef, FieldType.isReference]
    first | (intro acts; rw [hr _ acts rfl rfl rfl]) | rw [hr _ _ rfl rfl rfl]
    exact Steps.refl _
  · show QrmCp3_2_2 Z a0 ka c0 c1 h0 n0 _ T3.heap _
    rw [e3]
    exact ⟨_, _, rfl, N3, sz_b1, Kk3, V3⟩
def QCp3_2 (Z : State) (c0 : Int32) (c1 : Int32) (h0 : Heap) (n0 : Nat) (v : Option Value) (h : Heap) (L : List Loc) : Prop := (∃ (b : Addr) (k : ClassId), v = some (.ref b) ∧ Fr n0 L ∧ h0.size ≤ b ∧ Keep h0 h [] ∧ Arv Z h b k .byte (2 : Int32) [(.int (own_b c0)), (.int (own_b c1))] (.int (0 : Int32)) ∧ ¬ (255 : Int32) < c0 ∧ ¬ (255 : Int32) < c1) ∨ (∃ (b : Addr) (k : ClassId), v = some (.ref b) ∧ Fr n0 L ∧ h0.size ≤ b ∧ Keep h0 h [] ∧ Arv Z h b k .byte (4 : Int32) [(.int (own_lo c0)), (.int (own_hi c0)), (.int (own_lo c1)), (.int (own_hi c1))] (.int (0 : Int32)))
theorem rmCp3J_2 (l : Launch) (Z : State) (av0 : Array Value) (hw : ∀ d ∈ tables_1, d.before av0 Z = true) (ws : List Jvm.Cond) (a0 : Addr) (ka : ClassId) (c0 : Int32) (c1 : Int32) (h0 : Heap) (n0 : Nat) (Z0 : n0 ≤ h0.size) (hA : Arv Z h0 a0 ka .char (2 : Int32) [(.int c0), (.int c1)] (.int (0 : Int32))) (hg0 : 0 ≤ c0.toInt ∧ c0.toInt < 65536) (hg1 : 0 ≤ c1.toInt ∧ c1.toInt < 65536) (sA : Sta Z h0 "java/lang/StringUTF16" "$assertionsDisabled" "Z" (.int (1 : Int32))) (sH : Sta Z h0 "java/lang/StringUTF16" "HI_BYTE_SHIFT" "I" (.int (0 : Int32))) (sL : Sta Z h0 "java/lang/StringUTF16" "LO_BYTE_SHIFT" "I" (.int (8 : Int32))) :
    own_Met l mN27 jdk_52_method_16_code 6 (some (.array .byte)) ws ({ frames := 3, cells := 2, slots := 6, locals := 40 } : Room) #[(.ref a0), (.int (0 : Int32)), (.int (2 : Int32))] Z h0 (QCp3_2 Z c0 c1 h0 n0) := by
  by_cases q0 : (255 : Int32) < c0
  · exact own_weak (rmCp3_2_0 l Z av0 hw ws a0 ka c0 c1 h0 n0 Z0 hA  q0 hg0 sA sH sL) (fun v t L q => Or.inr q)
  by_cases q1 : (255 : Int32) < c1
  · exact own_weak (rmCp3_2_1 l Z av0 hw ws a0 ka c0 c1 h0 n0 Z0 hA q0 q1 hg1 sA sH sL) (fun v t L q => Or.inr q)
  exact own_weak (rmCp3_2_2 l Z av0 hw ws a0 ka c0 c1 h0 n0 Z0 hA q0 q1) (fun v t L ⟨b, k, z1, z2, z3, z4, z5⟩ => Or.inl ⟨b, k, z1, z2, z3, z4, z5, q0, q1⟩)
theorem d10_0 : decode jdk_52_method_15_code 0 = .ok (.iload_n 1, 1) := by decide +kernel
theorem d10_1 : decode jdk_52_method_15_code 1 = .ok (.aload_n 0, 1) := by decide +kernel
theorem d10_2 : decode jdk_52_method_15_code 2 = .ok (.arraylength, 1) := by decide +kernel
theorem d10_3 : decode jdk_52_method_15_code 3 = .ok (.isub, 1) := by decide +kernel
theorem d10_4 : decode jdk_52_method_15_code 4 = .ok (.bipush 31, 2) := by decide +kernel
theorem d10_6 : decode jdk_52_method_15_code 6 = .ok (.iushr, 1) := by decide +kernel
theorem d10_7 : decode jdk_52_method_15_code 7 = .ok (.i2b, 1) := by decide +kernel
theorem d10_8 : decode jdk_52_method_15_code 8 = .ok (.ireturn, 1) := by decide +kernel
def QrmCd_2_0 (Z : State) (a0 : Addr) (ka : ClassId) (vs : List Value) (h0 : Heap) (n0 : Nat) (v : Option Value) (h : Heap) (L : List Loc) : Prop := v = some (.int 0) ∧ Fr n0 L ∧ h = h0
set_option maxRecDepth 65536 in
set_option maxHeartbeats 40000000 in
theorem rmCd_2_0 (l : Launch) (Z : State) (av0 : Array Value) (hw : ∀ d ∈ tables_1, d.before av0 Z = true) (ws : List Jvm.Cond) (a0 : Addr) (ka : ClassId) (vs : List Value) (h0 : Heap) (n0 : Nat) (Z0 : n0 ≤ h0.size) (hA : Arv Z h0 a0 ka .byte (2 : Int32) vs (.int (0 : Int32))) :
    own_Met l mN28 jdk_52_method_15_code 2 (some .byte) ws ({ frames := 0, cells := 0, slots := 0, locals := 0 } : Room) #[(.ref a0), (.int 2)] Z h0 (QrmCd_2_0 Z a0 ka vs h0 n0) := by
  refine MetFree.of_bodySF (plainFor_of_name pn_StringUTF16) hisR ?_
  intro p e s m args below meth c s₁ Bd hml0 hP hK
  obtain ⟨rfl, hZ, hh⟩ := hP
  have hml : c.maxLocals = 2 := hml0
  obtain ⟨hx, hby, hown, hnm, X0, e0⟩ := own_start Bd hml0 hh
  have N0 := Fr.nil n0
  have pre0 : ∀ t, oS p e below s₁ (mkF m 0 #[rv a0, iv 2] []) t → Steps p.tables e below (s₁.setTop (entryFrame m #[(.ref a0), (.int 2)] 2)) t := fun t k => castTop (by first | (simp [entryFrame, mkF, argsToLocals, Value.category]; done) | rfl) k
  obtain ⟨cl1, Ar1, qk1, Sz1, Ng1, Hs1, Gs1⟩ := id hA
  have S2 : ∀ t, oS p e below s₁ (mkF m 8 #[rv a0, iv 2] [(.int 0)]) t → oS p e below s₁ (mkF m 0 #[rv a0, iv 2] []) t := fun t k => id (by
    show oS p e below s₁ (mkF m 0 #[rv a0, iv 2] []) _
    refine XS.iloadN X0.here hx rfl (hb hby d10_0) rfl ?_
    refine XS.aloadN X0.here hx rfl (hb hby d10_1) rfl rfl ?_
    refine X0.arraylength hx (by rw [e0]; exact Ar1.1) (State.isArrayOf_alike hZ.alike Ar1.2.1) (g := (mkF m 2 #[rv a0, iv 2] [(.ref a0), (.int 2)])) rfl rfl (hb hby d10_2) _ ?_
    rw [len_of Sz1 Ng1]
    refine XS.isub X0.here hx rfl (hb hby d10_3) rfl ?_
    refine XT.bipushV X0.here hx rfl (31 : Int32) (hb hby d10_4) (by decide) ?_
    refine XT.iushr X0.here hx rfl (hb hby d10_6) rfl ?_
    refine XT.i2b X0.here hx rfl (hb hby d10_7) rfl ?_
    exact k)
  obtain ⟨fs, hr, hrun, hended, hW, hsame⟩ := X0.leave (v := some (.int (nar .byte (0 : Int32)))) (fun h => by rw [Bd.returns] at h; cases h)
  refine ⟨_, _, pre0 _ (S2 _ ?_), hrun, hended, _, _, rfl, ?_, ⟨_, rfl⟩, hW, hsame.mono (by decide) (by decide)⟩
  · exact retN X0 hx (t := .byte) Bd.returns (by simp) (hb hby d10_8) hr
  · show QrmCd_2_0 Z a0 ka vs h0 n0 _ s₁.heap _
    rw [e0]
    exact ⟨congrArg (fun z => some (Value.int z)) (by decide), N0, rfl⟩
def QrmCd_2_1 (Z : State) (a0 : Addr) (ka : ClassId) (vs : List Value) (h0 : Heap) (n0 : Nat) (v : Option Value) (h : Heap) (L : List Loc) : Prop := v = some (.int 1) ∧ Fr n0 L ∧ h = h0
set_option maxRecDepth 65536 in
set_option maxHeartbeats 40000000 in
theorem rmCd_2_1 (l : Launch) (Z : State) (av0 : Array Value) (hw : ∀ d ∈ tables_1, d.before av0 Z = true) (ws : List Jvm.Cond) (a0 : Addr) (ka : ClassId) (vs : List Value) (h0 : Heap) (n0 : Nat) (Z0 : n0 ≤ h0.size) (hA : Arv Z h0 a0 ka .byte (4 : Int32) vs (.int (0 : Int32))) :
    own_Met l mN28 jdk_52_method_15_code 2 (some .byte) ws ({ frames := 0, cells := 0, slots := 0, locals := 0 } : Room) #[(.ref a0), (.int 2)] Z h0 (QrmCd_2_1 Z a0 ka vs h0 n0) := by
  refine MetFree.of_bodySF (plainFor_of_name pn_StringUTF16) hisR ?_
  intro p e s m args below meth c s₁ Bd hml0 hP hK
  obtain ⟨rfl, hZ, hh⟩ := hP
  have hml : c.maxLocals = 2 := hml0
  obtain ⟨hx, hby, hown, hnm, X0, e0⟩ := own_start Bd hml0 hh
  have N0 := Fr.nil n0
  have pre0 : ∀ t, oS p e below s₁ (mkF m 0 #[rv a0, iv 2] []) t → Steps p.tables e below (s₁.setTop (entryFrame m #[(.ref a0), (.int 2)] 2)) t := fun t k => castTop (by first | (simp [entryFrame, mkF, argsToLocals, Value.category]; done) | rfl) k
  obtain ⟨cl1, Ar1, qk1, Sz1, Ng1, Hs1, Gs1⟩ := id hA
  have S2 : ∀ t, oS p e below s₁ (mkF m 8 #[rv a0, iv 2] [(.int 1)]) t → oS p e below s₁ (mkF m 0 #[rv a0, iv 2] []) t := fun t k => id (by
    show oS p e below s₁ (mkF m 0 #[rv a0, iv 2] []) _
    refine XS.iloadN X0.here hx rfl (hb hby d10_0) rfl ?_
    refine XS.aloadN X0.here hx rfl (hb hby d10_1) rfl rfl ?_
    refine X0.arraylength hx (by rw [e0]; exact Ar1.1) (State.isArrayOf_alike hZ.alike Ar1.2.1) (g := (mkF m 2 #[rv a0, iv 2] [(.ref a0), (.int 2)])) rfl rfl (hb hby d10_2) _ ?_
    rw [len_of Sz1 Ng1]
    refine XS.isub X0.here hx rfl (hb hby d10_3) rfl ?_
    refine XT.bipushV X0.here hx rfl (31 : Int32) (hb hby d10_4) (by decide) ?_
    refine XT.iushr X0.here hx rfl (hb hby d10_6) rfl ?_
    refine XT.i2b X0.here hx rfl (hb hby d10_7) rfl ?_
    exact k)
  obtain ⟨fs, hr, hrun, hended, hW, hsame⟩ := X0.leave (v := some (.int (nar .byte (1 : Int32)))) (fun h => by rw [Bd.returns] at h; cases h)
  refine ⟨_, _, pre0 _ (S2 _ ?_), hrun, hended, _, _, rfl, ?_, ⟨_, rfl⟩, hW, hsame.mono (by decide) (by decide)⟩
  · exact retN X0 hx (t := .byte) Bd.returns (by simp) (hb hby d10_8) hr
  · show QrmCd_2_1 Z a0 ka vs h0 n0 _ s₁.heap _
    rw [e0]
    exact ⟨congrArg (fun z => some (Value.int z)) (by decide), N0, rfl⟩
theorem d2_27 : decode jdk_42_method_149_code 27 = .ok (.getstatic 38, 3) := by decide +kernel
theorem d2_30 : decode jdk_42_method_149_code 30 = .ok (.ifCond .eq 28, 3) := by decide +kernel
theorem d2_33 : decode jdk_42_method_149_code 33 = .ok (.aload_n 1, 1) := by decide +kernel
theorem d2_34 : decode jdk_42_method_149_code 34 = .ok (.iload_n 2, 1) := by decide +kernel
theorem d2_35 : decode jdk_42_method_149_code 35 = .ok (.iload_n 3, 1) := by decide +kernel
theorem d2_36 : decode jdk_42_method_149_code 36 = .ok (.invokestatic 177, 3) := by decide +kernel
theorem d2_39 : decode jdk_42_method_149_code 39 = .ok (.astore 5, 2) := by decide +kernel
theorem d2_41 : decode jdk_42_method_149_code 41 = .ok (.aload_n 0, 1) := by decide +kernel
theorem d2_42 : decode jdk_42_method_149_code 42 = .ok (.aload 5, 2) := by decide +kernel
theorem d2_44 : decode jdk_42_method_149_code 44 = .ok (.iload_n 3, 1) := by decide +kernel
theorem d2_45 : decode jdk_42_method_149_code 45 = .ok (.invokestatic 47, 3) := by decide +kernel
theorem d2_48 : decode jdk_42_method_149_code 48 = .ok (.putfield 15, 3) := by decide +kernel
theorem d2_51 : decode jdk_42_method_149_code 51 = .ok (.aload_n 0, 1) := by decide +kernel
theorem d2_52 : decode jdk_42_method_149_code 52 = .ok (.aload 5, 2) := by decide +kernel
theorem d2_54 : decode jdk_42_method_149_code 54 = .ok (.putfield 9, 3) := by decide +kernel
theorem d2_57 : decode jdk_42_method_149_code 57 = .ok (.return_, 1) := by decide +kernel
theorem pd__BI_B : parseMethodDescriptor "([BI)B" = some ⟨[(.array .byte), .int], some .byte⟩ := by decide +kernel
def QrmSi4_2 (Z : State) (a0 : Addr) (a1 : Addr) (ka : ClassId) (wC : Int32) (c0 : Int32) (c1 : Int32) (h0 : Heap) (n0 : Nat) (v : Option Value) (h : Heap) (L : List Loc) : Prop := v = none ∧ Fr n0 L ∧ Keep h0 h [a0] ∧ own_St2 Z h a0 c0 c1
set_option maxRecDepth 65536 in
set_option maxHeartbeats 40000000 in
theorem rmSi4_2 (l : Launch) (Z : State) (av0 : Array Value) (hw : ∀ d ∈ tables_1, d.before av0 Z = true) (ws : List Jvm.Cond) (a0 : Addr) (a1 : Addr) (ka : ClassId) (wC : Int32) (c0 : Int32) (c1 : Int32) (h0 : Heap) (n0 : Nat) (Z0 : n0 ≤ h0.size) (hE : Exa Z h0 a0 "java/lang/String") (hV : Fld Z h0 a0 "java/lang/String" "value" "[B" .null) (hC : Fld Z h0 a0 "java/lang/String" "coder" "B" (.int (0 : Int32))) (hge : n0 ≤ a0) (hA : Arv Z h0 a1 ka .char (2 : Int32) [(.int c0), (.int c1)] (.int (0 : Int32))) (hS : Sta Z h0 "java/lang/String" "COMPACT_STRINGS" "Z" (.int wC)) (hw0 : ¬ wC = (0 : Int32)) (hg0 : 0 ≤ c0.toInt ∧ c0.toInt < 65536) (hg1 : 0 ≤ c1.toInt ∧ c1.toInt < 65536) (sA : Sta Z h0 "java/lang/StringUTF16" "$assertionsDisabled" "Z" (.int (1 : Int32))) (sH : Sta Z h0 "java/lang/StringUTF16" "HI_BYTE_SHIFT" "I" (.int (0 : Int32))) (sL : Sta Z h0 "java/lang/StringUTF16" "LO_BYTE_SHIFT" "I" (.int (8 : Int32))) :
    own_Met l mN3 jdk_42_method_149_code 6 none ws ({ frames := 4, cells := 2, slots := 6, locals := 57 } : Room) #[(.ref a0), (.ref a1), (.int 0), (.int 2), .null] Z h0 (QrmSi4_2 Z a0 a1 ka wC c0 c1 h0 n0) := by
  refine MetFree.of_bodySF (plainFor_of_name pn_String) hisR ?_
  intro p e s m args below meth c s₁ Bd hml0 hP hK
  obtain ⟨rfl, hZ, hh⟩ := hP
  have hml : c.maxLocals = 6 := hml0
  obtain ⟨hx, hby, hown, hnm, X0, e0⟩ := own_start Bd hml0 hh
  have N0 := Fr.nil n0
  have pre0 : ∀ t, oS p e below s₁ (mkF m 0 #[rv a0, rv a1, iv 0, iv 2, .val .null, .unset] []) t → Steps p.tables e below (s₁.setTop (entryFrame m #[(.ref a0), (.ref a1), (.int 0), (.int 2), .null] 6)) t := fun t k => castTop (by first | (simp [entryFrame, mkF, argsToLocals, Value.category]; done) | rfl) k
  obtain ⟨T1, X1, e1, st1⟩ := initO X0 hx hZ hown (hw _ (own_w 11 rfl)) (hw _ (own_w 12 rfl)) (hw _ (own_w 13 rfl)) e0 (g := (mkF m 1 #[rv a0, rv a1, iv 0, iv 2, .val .null, .unset] [(.ref a0)])) rfl (by rw [hml]; rfl) rfl (hb hby d2_1) (by decide) (W := 0) (by show 2 * 0 + _ ≤ _; exact Nat.le_of_eq rfl) (by decide)
  obtain ⟨T2, X2, e2, st2⟩ := getS2 X1 hx hZ hown (host := "") (Or.inl (hw _ (own_w 25 rfl))) Via.refl e1 hS (g := (mkF m 27 #[rv a0, rv a1, iv 0, iv 2, .val .null, .unset] [])) rfl (hb hby d2_27)
  obtain ⟨_, T3, Lc3, X3, hQ3, st3⟩ := own_callS (W := 0) (y := mN27) X2 hx hZ hown (hw _ (own_w 37 rfl)) (hw _ (own_w 38 rfl)) (hw _ (own_w 39 rfl)) (hw _ (own_w 40 rfl)) (by decide) (rmCp3J_2 l Z av0 hw [] a1 ka c0 c1 h0 n0 Z0 hA hg0 hg1 sA sH sL) (by decide) (by decide) (g := (mkF m 36 #[rv a0, rv a1, iv 0, iv 2, .val .null, .unset] [(.int 2), (.int 0), (.ref a1)])) rfl (by rw [hml]; rfl) (argsL := [(.ref a1), (.int 0), (.int 2)]) (rest := []) (lenOf pd__CII_B rfl) rfl (hb hby d2_36) rfl e2 (by decide : 0 + 2 ≤ _) (by decide : 0 + 6 ≤ _)
  rcases hQ3 with ⟨b3, kb3, rfl, N3q, gb3, K3, V3, lt0_3, lt1_3⟩ | ⟨b3, kb3, rfl, N3q, gb3, K3, V3⟩
  · have N3 := Fr.app N0 N3q
    have e3 : T3.heap = T3.heap := rfl
    have ne_a0_b3 : a0 ≠ b3 := Nat.ne_of_lt (Nat.lt_of_lt_of_le hE.lt gb3)
    have ne_a1_b3 : a1 ≠ b3 := Nat.ne_of_lt (Nat.lt_of_lt_of_le hA.lt gb3)
    have ge_b3 : n0 ≤ b3 := Nat.le_trans Z0 gb3
    have sz_b3 : h0.size ≤ b3 := gb3
    have Zk3 : n0 ≤ T3.heap.size := Nat.le_trans Z0 K3.1
    have Kk3 : Keep h0 T3.heap [a0] := (Keep.refl h0 [a0]).trans K3 all0
    obtain ⟨_, T4, Lc4, X4, hQ4, st4⟩ := own_callS (W := 1) (y := mN28) X3 hx hZ hown (hw _ (own_w 44 rfl)) (hw _ (own_w 45 rfl)) (hw _ (own_w 39 rfl)) (hw _ (own_w 46 rfl)) (by decide) (rmCd_2_0 l Z av0 hw [] b3 kb3 [(.int (own_b c0)), (.int (own_b c1))] T3.heap n0 Zk3 V3) (by decide) (by decide) (g := (mkF m 45 #[rv a0, rv a1, iv 0, iv 2, .val .null, rv b3] [(.int 2), (.ref b3), (.ref a0)])) rfl (by rw [hml]; rfl) (argsL := [(.ref b3), (.int 2)]) (rest := [(.ref a0)]) (lenOf pd__BI_B rfl) rfl (hb hby d2_45) rfl e3 (by decide : 2 + 0 ≤ _) (by decide : 6 + 0 ≤ _)
    obtain ⟨rfl, N4q, hh4⟩ := hQ4
    have N4 := Fr.app N3 N4q
    have e4 : T4.heap = T3.heap := hh4
    have f5 := (hC.keep K3 nin0)
    have f6 := (hE.keep K3)
    obtain ⟨T7, h7, X7, e7, W7, st7⟩ := putFN X4 hx hZ hown (hw _ (own_w 21 rfl)) Via.refl e4 f5 f6 (Or.inr ⟨(hw _ (own_w 17 rfl)), rfl, hnm⟩) (hw _ (own_w 1 rfl)) (ty := .byte) (v' := (.int 0)) (by decide) rfl rfl (g := (mkF m 48 #[rv a0, rv a1, iv 0, iv 2, .val .null, rv b3] [(.int 0), (.ref a0)])) rfl rfl (hb hby d2_48)
    have N7 := Fr.snoc X7 N4 hge
    have Z7 : n0 ≤ h7.size := Nat.le_trans Zk3 (Nat.le_of_eq W7.size.symm)
    have K7 : Keep h0 h7 [a0] := Kk3.wr W7 (Or.inl (List.mem_of_getElem? (i := 0) rfl))
    have Fw7 := f5.same W7
    have f8 := ((hV.keep K3 nin0).other W7 (Or.inr (slot_ne (Or.inr (hw _ (own_w 16 rfl))) (Or.inr (hw _ (own_w 17 rfl))) (by decide) (t := (.array .byte)) (t' := .byte) (by decide) (by decide))))
    have f9 := (f6.wr W7)
    obtain ⟨T10, h10, X10, e10, W10, st10⟩ := putF X7 hx hZ hown (host := "") (Or.inl (hw _ (own_w 20 rfl))) Via.refl e7 f8 f9 (Or.inr ⟨(hw _ (own_w 16 rfl)), rfl, hnm⟩) (hw _ (own_w 1 rfl)) (ty := (.array .byte)) (by decide) rfl rfl (g := (mkF m 54 #[rv a0, rv a1, iv 0, iv 2, .val .null, rv b3] [(.ref b3), (.ref a0)])) rfl rfl (hb hby d2_54)
    have N10 := Fr.snoc X10 N7 hge
    have Z10 : n0 ≤ h10.size := Nat.le_trans Z7 (Nat.le_of_eq W10.size.symm)
    have K10 : Keep h0 h10 [a0] := K7.wr W10 (Or.inl (List.mem_of_getElem? (i := 0) rfl))
    have Fw10 := f8.same W10
    have S11 : ∀ t, oS p e below T10 (mkF m 57 #[rv a0, rv a1, iv 0, iv 2, .val .null, rv b3] []) t → oS p e below s₁ (mkF m 0 #[rv a0, rv a1, iv 0, iv 2, .val .null, .unset] []) t := fun t k => id (by
      show oS p e below s₁ (mkF m 0 #[rv a0, rv a1, iv 0, iv 2, .val .null, .unset] []) _
      refine XS.aloadN X0.here hx rfl (hb hby d2_0) rfl rfl ?_
      refine st1 _ ?_
      refine XS.iloadN X1.here hx rfl (hb hby d2_4) rfl ?_
      refine XS.ifYes X1.here hx rfl (pc0 := 5) (pc' := 27) rfl (hb hby d2_5) rfl (XT.i0_ne_t (by decide)) (by decide) (by decide) ?_
      refine st2 _ ?_
      refine XS.ifNo X2.here hx rfl (hb hby d2_30) rfl (XT.i0_eq_f hw0) ?_
      refine XS.aloadN X2.here hx rfl (hb hby d2_33) rfl rfl ?_
      refine XS.iloadN X2.here hx rfl (hb hby d2_34) rfl ?_
      refine XS.iloadN X2.here hx rfl (hb hby d2_35) rfl ?_
      refine st3 _ ?_
      refine XS.astore X3.here hx rfl (hb hby d2_39) rfl rfl (l' := #[rv a0, rv a1, iv 0, iv 2, .val .null, rv b3]) rfl ?_
      refine XS.aloadN X3.here hx rfl (hb hby d2_41) rfl rfl ?_
      refine XS.aload X3.here hx rfl (hb hby d2_42) rfl rfl ?_
      refine XS.iloadN X3.here hx rfl (hb hby d2_44) rfl ?_
      refine st4 _ ?_
      show oS p e below T4 (mkF m 48 #[rv a0, rv a1, iv 0, iv 2, .val .null, rv b3] [(.int 0), (.ref a0)]) _
      refine st7 _ ?_
      refine XS.aloadN X7.here hx rfl (hb hby d2_51) rfl rfl ?_
      refine XS.aload X7.here hx rfl (hb hby d2_52) rfl rfl ?_
      refine st10 _ ?_
      exact k)
    obtain ⟨fs, hr, hrun, hended, hW, hsame⟩ := X10.leave (v := none) (fun _ => rfl)
    refine ⟨_, _, pre0 _ (S11 _ ?_), hrun, hended, _, _, rfl, ?_, ⟨_, rfl⟩, hW, hsame.mono (by decide) (by decide)⟩
    · exact X10.returnOut hx Bd.returns (hb hby d2_57) hr
    have f12 := (Fw7.other W10 (Or.inr (slot_ne (Or.inr (hw _ (own_w 17 rfl))) (Or.inr (hw _ (own_w 16 rfl))) (by decide) (t := .byte) (t' := (.array .byte)) (by decide) (by decide))))
    have f13 := ((V3.other W7 (Ne.symm ne_a0_b3)).other W10 (Ne.symm ne_a0_b3))
    · show QrmSi4_2 Z a0 a1 ka wC c0 c1 h0 n0 _ T10.heap _
      rw [e10]
      exact ⟨rfl, N10, K10, Or.inl ⟨b3, _, Fw10, f12, f13, lt0_3, lt1_3⟩⟩
  · have N3 := Fr.app N0 N3q
    have e3 : T3.heap = T3.heap := rfl
    have ne_a0_b3 : a0 ≠ b3 := Nat.ne_of_lt (Nat.lt_of_lt_of_le hE.lt gb3)
    have ne_a1_b3 : a1 ≠ b3 := Nat.ne_of_lt (Nat.lt_of_lt_of_le hA.lt gb3)
    have ge_b3 : n0 ≤ b3 := Nat.le_trans Z0 gb3
    have sz_b3 : h0.size ≤ b3 := gb3
    have Zk3 : n0 ≤ T3.heap.size := Nat.le_trans Z0 K3.1
    have Kk3 : Keep h0 T3.heap [a0] := (Keep.refl h0 [a0]).trans K3 all0
    obtain ⟨_, T14, Lc14, X14, hQ14, st14⟩ := own_callS (W := 1) (y := mN28) X3 hx hZ hown (hw _ (own_w 44 rfl)) (hw _ (own_w 45 rfl)) (hw _ (own_w 39 rfl)) (hw _ (own_w 46 rfl)) (by decide) (rmCd_2_1 l Z av0 hw [] b3 kb3 [(.int (own_lo c0)), (.int (own_hi c0)), (.int (own_lo c1)), (.int (own_hi c1))] T3.heap n0 Zk3 V3) (by decide) (by decide) (g := (mkF m 45 #[rv a0, rv a1, iv 0, iv 2, .val .null, rv b3] [(.int 2), (.ref b3), (.ref a0)])) rfl (by rw [hml]; rfl) (argsL := [(.ref b3), (.int 2)]) (rest := [(.ref a0)]) (lenOf pd__BI_B rfl) rfl (hb hby d2_45) rfl e3 (by decide : 2 + 0 ≤ _) (by decide : 6 + 0 ≤ _)
    obtain ⟨rfl, N14q, hh14⟩ := hQ14
    have N14 := Fr.app N3 N14q
    have e14 : T14.heap = T3.heap := hh14
    have f15 := (hC.keep K3 nin0)
    have f16 := (hE.keep K3)
    obtain ⟨T17, h17, X17, e17, W17, st17⟩ := putFN X14 hx hZ hown (hw _ (own_w 21 rfl)) Via.refl e14 f15 f16 (Or.inr ⟨(hw _ (own_w 17 rfl)), rfl, hnm⟩) (hw _ (own_w 1 rfl)) (ty := .byte) (v' := (.int 1)) (by decide) rfl rfl (g := (mkF m 48 #[rv a0, rv a1, iv 0, iv 2, .val .null, rv b3] [(.int 1), (.ref a0)])) rfl rfl (hb hby d2_48)
    have N17 := Fr.snoc X17 N14 hge
    have Z17 : n0 ≤ h17.size := Nat.le_trans Zk3 (Nat.le_of_eq W17.size.symm)
    have K17 : Keep h0 h17 [a0] := Kk3.wr W17 (Or.inl (List.mem_of_getElem? (i := 0) rfl))
    have Fw17 := f15.same W17
    have f18 := ((hV.keep K3 nin0).other W17 (Or.inr (slot_ne (Or.inr (hw _ (own_w 16 rfl))) (Or.inr (hw _ (own_w 17 rfl))) (by decide) (t := (.array .byte)) (t' := .byte) (by decide) (by decide))))
    have f19 := (f16.wr W17)
    obtain ⟨T20, h20, X20, e20, W20, st20⟩ := putF X17 hx hZ hown (host := "") (Or.inl (hw _ (own_w 20 rfl))) Via.refl e17 f18 f19 (Or.inr ⟨(hw _ (own_w 16 rfl)), rfl, hnm⟩) (hw _ (own_w 1 rfl)) (ty := (.array .byte)) (by decide) rfl rfl (g := (mkF m 54 #[rv a0, rv a1, iv 0, iv 2, .val .null, rv b3] [(.ref b3), (.ref a0)])) rfl rfl (hb hby d2_54)
    have N20 := Fr.snoc X20 N17 hge
    have Z20 : n0 ≤ h20.size := Nat.le_trans Z17 (Nat.le_of_eq W20.size.symm)
    have K20 : Keep h0 h20 [a0] := K17.wr W20 (Or.inl (List.mem_of_getElem? (i := 0) rfl))
    have Fw20 := f18.same W20
    have S21 : ∀ t, oS p e below T20 (mkF m 57 #[rv a0, rv a1, iv 0, iv 2, .val .null, rv b3] []) t → oS p e below s₁ (mkF m 0 #[rv a0, rv a1, iv 0, iv 2, .val .null, .unset] []) t := fun t k => id (by
      show oS p e below s₁ (mkF m 0 #[rv a0, rv a1, iv 0, iv 2, .val .null, .unset] []) _
      refine XS.aloadN X0.here hx rfl (hb hby d2_0) rfl rfl ?_
      refine st1 _ ?_
      refine XS.iloadN X1.here hx rfl (hb hby d2_4) rfl ?_
      refine XS.ifYes X1.here hx rfl (pc0 := 5) (pc' := 27) rfl (hb hby d2_5) rfl (XT.i0_ne_t (by decide)) (by decide) (by decide) ?_
      refine st2 _ ?_
      refine XS.ifNo X2.here hx rfl (hb hby d2_30) rfl (XT.i0_eq_f hw0) ?_
      refine XS.aloadN X2.here hx rfl (hb hby d2_33) rfl rfl ?_
      refine XS.iloadN X2.here hx rfl (hb hby d2_34) rfl ?_
      refine XS.iloadN X2.here hx rfl (hb hby d2_35) rfl ?_
      refine st3 _ ?_
      refine XS.astore X3.here hx rfl (hb hby d2_39) rfl rfl (l' := #[rv a0, rv a1, iv 0, iv 2, .val .null, rv b3]) rfl ?_
      refine XS.aloadN X3.here hx rfl (hb hby d2_41) rfl rfl ?_
      refine XS.aload X3.here hx rfl (hb hby d2_42) rfl rfl ?_
      refine XS.iloadN X3.here hx rfl (hb hby d2_44) rfl ?_
      refine st14 _ ?_
      show oS p e below T14 (mkF m 48 #[rv a0, rv a1, iv 0, iv 2, .val .null, rv b3] [(.int 1), (.ref a0)]) _
      refine st17 _ ?_
      refine XS.aloadN X17.here hx rfl (hb hby d2_51) rfl rfl ?_
      refine XS.aload X17.here hx rfl (hb hby d2_52) rfl rfl ?_
      refine st20 _ ?_
      exact k)
    obtain ⟨fs, hr, hrun, hended, hW, hsame⟩ := X20.leave (v := none) (fun _ => rfl)
    refine ⟨_, _, pre0 _ (S21 _ ?_), hrun, hended, _, _, rfl, ?_, ⟨_, rfl⟩, hW, hsame.mono (by decide) (by decide)⟩
    · exact X20.returnOut hx Bd.returns (hb hby d2_57) hr
    have f22 := (Fw17.other W20 (Or.inr (slot_ne (Or.inr (hw _ (own_w 17 rfl))) (Or.inr (hw _ (own_w 16 rfl))) (by decide) (t := .byte) (t' := (.array .byte)) (by decide) (by decide))))
    have f23 := ((V3.other W17 (Ne.symm ne_a0_b3)).other W20 (Ne.symm ne_a0_b3))
    · show QrmSi4_2 Z a0 a1 ka wC c0 c1 h0 n0 _ T20.heap _
      rw [e20]
      exact ⟨rfl, N20, K20, Or.inr ⟨b3, _, Fw20, f22, f23⟩⟩
def QrmSi2_2 (Z : State) (a0 : Addr) (a1 : Addr) (ka : ClassId) (wC : Int32) (c0 : Int32) (c1 : Int32) (h0 : Heap) (n0 : Nat) (v : Option Value) (h : Heap) (L : List Loc) : Prop := v = none ∧ Fr n0 L ∧ Keep h0 h [a0] ∧ own_St2 Z h a0 c0 c1
set_option maxRecDepth 65536 in
set_option maxHeartbeats 40000000 in
theorem rmSi2_2 (l : Launch) (Z : State) (av0 : Array Value) (hw : ∀ d ∈ tables_1, d.before av0 Z = true) (ws : List Jvm.Cond) (a0 : Addr) (a1 : Addr) (ka : ClassId) (wC : Int32) (c0 : Int32) (c1 : Int32) (h0 : Heap) (n0 : Nat) (Z0 : n0 ≤ h0.size) (hE : Exa Z h0 a0 "java/lang/String") (hV : Fld Z h0 a0 "java/lang/String" "value" "[B" .null) (hC : Fld Z h0 a0 "java/lang/String" "coder" "B" (.int (0 : Int32))) (hge : n0 ≤ a0) (hA : Arv Z h0 a1 ka .char (2 : Int32) [(.int c0), (.int c1)] (.int (0 : Int32))) (hS : Sta Z h0 "java/lang/String" "COMPACT_STRINGS" "Z" (.int wC)) (hw0 : ¬ wC = (0 : Int32)) (hg0 : 0 ≤ c0.toInt ∧ c0.toInt < 65536) (hg1 : 0 ≤ c1.toInt ∧ c1.toInt < 65536) (sA : Sta Z h0 "java/lang/StringUTF16" "$assertionsDisabled" "Z" (.int (1 : Int32))) (sH : Sta Z h0 "java/lang/StringUTF16" "HI_BYTE_SHIFT" "I" (.int (0 : Int32))) (sL : Sta Z h0 "java/lang/StringUTF16" "LO_BYTE_SHIFT" "I" (.int (8 : Int32))) :
    own_Met l mN4 jdk_42_method_3_code 2 none ws ({ frames := 5, cells := 2, slots := 6, locals := 74 } : Room) #[(.ref a0), (.ref a1)] Z h0 (QrmSi2_2 Z a0 a1 ka wC c0 c1 h0 n0) := by
  refine MetFree.of_bodySF (plainFor_of_name pn_String) hisR ?_
  intro p e s m args below meth c s₁ Bd hml0 hP hK
  obtain ⟨rfl, hZ, hh⟩ := hP
  have hml : c.maxLocals = 2 := hml0
  obtain ⟨hx, hby, hown, hnm, X0, e0⟩ := own_start Bd hml0 hh
  have N0 := Fr.nil n0
  have pre0 : ∀ t, oS p e below s₁ (mkF m 0 #[rv a0, rv a1] []) t → Steps p.tables e below (s₁.setTop (entryFrame m #[(.ref a0), (.ref a1)] 2)) t := fun t k => castTop (by first | (simp [entryFrame, mkF, argsToLocals, Value.category]; done) | rfl) k
  obtain ⟨cl1, Ar1, qk1, Sz1, Ng1, Hs1, Gs1⟩ := id hA
  obtain ⟨_, T2, Lc2, X2, hQ2, st2⟩ := own_special (W := 0) (y := mN3) X0 hx hZ rfl hown (hw _ (own_w 7 rfl)) (hw _ (own_w 8 rfl)) (hw _ (own_w 10 rfl)) (hw _ (own_w 2 rfl)) (by decide) (rmSi4_2 l Z av0 hw [] a0 a1 ka wC c0 c1 h0 n0 Z0 hE hV hC hge hA hS hw0 hg0 hg1 sA sH sL) (by decide) (by decide) (g := (mkF m 6 #[rv a0, rv a1] [.null, (.int 2), (.int 0), (.ref a1), (.ref a0)])) rfl (by rw [hml]; rfl) (a := a0) (argsL := [(.ref a1), (.int 0), (.int 2), .null]) (rest := []) (lenOf pd__CIILjava_lang_Void_V rfl) rfl (hb hby d1_6) rfl e0 (by decide : 0 + 2 ≤ _) (by decide : 0 + 6 ≤ _)
  obtain ⟨rfl, N2q, K2, St2⟩ := hQ2
  have N2 := Fr.app N0 N2q
  have e2 : T2.heap = T2.heap := rfl
  have Zk2 : n0 ≤ T2.heap.size := Nat.le_trans Z0 K2.1
  have Kk2 : Keep h0 T2.heap [a0] := (Keep.refl h0 [a0]).trans K2 (allS (Or.inl (List.mem_of_getElem? (i := 0) rfl)) all0)
  have S3 : ∀ t, oS p e below T2 (mkF m 9 #[rv a0, rv a1] []) t → oS p e below s₁ (mkF m 0 #[rv a0, rv a1] []) t := fun t k => id (by
    show oS p e below s₁ (mkF m 0 #[rv a0, rv a1] []) _
    refine XS.aloadN X0.here hx rfl (hb hby d1_0) rfl rfl ?_
    refine XS.aloadN X0.here hx rfl (hb hby d1_1) rfl rfl ?_
    refine XT.iconstV X0.here hx rfl (0 : Int32) (hb hby d1_2) (by decide) ?_
    refine XS.aloadN X0.here hx rfl (hb hby d1_3) rfl rfl ?_
    refine X0.arraylength hx (by rw [e0]; exact Ar1.1) (State.isArrayOf_alike hZ.alike Ar1.2.1) (g := (mkF m 4 #[rv a0, rv a1] [(.ref a1), (.int 0), (.ref a1), (.ref a0)])) rfl rfl (hb hby d1_4) _ ?_
    rw [len_of Sz1 Ng1]
    refine XS.aconstNull X0.here hx rfl (hb hby d1_5) ?_
    refine st2 _ ?_
    exact k)
  obtain ⟨fs, hr, hrun, hended, hW, hsame⟩ := X2.leave (v := none) (fun _ => rfl)
  refine ⟨_, _, pre0 _ (S3 _ ?_), hrun, hended, _, _, rfl, ?_, ⟨_, rfl⟩, hW, hsame.mono (by decide) (by decide)⟩
  · exact X2.returnOut hx Bd.returns (hb hby d1_9) hr
  · show QrmSi2_2 Z a0 a1 ka wC c0 c1 h0 n0 _ T2.heap _
    rw [e2]
    exact ⟨rfl, N2, Kk2, St2⟩
def QrmCp5_3_0 (Z : State) (a0 : Addr) (a2 : Addr) (ka : ClassId) (kb : ClassId) (c0 : Int32) (c1 : Int32) (c2 : Int32) (h0 : Heap) (n0 : Nat) (v : Option Value) (h : Heap) (L : List Loc) : Prop := v = some (.int (0 : Int32)) ∧ Fr n0 L ∧ Keep h0 h [a2] ∧ Arv Z h a2 kb .byte (3 : Int32) [(.int (0 : Int32)), (.int (0 : Int32)), (.int (0 : Int32))] (.int (0 : Int32))
set_option maxRecDepth 65536 in
set_option maxHeartbeats 40000000 in
theorem rmCp5_3_0 (l : Launch) (Z : State) (av0 : Array Value) (hw : ∀ d ∈ tables_1, d.before av0 Z = true) (ws : List Jvm.Cond) (a0 : Addr) (a2 : Addr) (ka : ClassId) (kb : ClassId) (c0 : Int32) (c1 : Int32) (c2 : Int32) (h0 : Heap) (n0 : Nat) (Z0 : n0 ≤ h0.size) (hA : Arv Z h0 a0 ka .char (3 : Int32) [(.int c0), (.int c1), (.int c2)] (.int (0 : Int32))) (hB : Arv Z h0 a2 kb .byte (3 : Int32) [(.int (0 : Int32)), (.int (0 : Int32)), (.int (0 : Int32))] (.int (0 : Int32))) (hne : a0 ≠ a2) (hge : n0 ≤ a2) (hbg : (255 : Int32) < c0) :
    own_Met l mN23 jdk_52_method_21_code 7 (some .int) ws ({ frames := 0, cells := 0, slots := 0, locals := 0 } : Room) #[(.ref a0), (.int 0), (.ref a2), (.int 0), (.int 3)] Z h0 (QrmCp5_3_0 Z a0 a2 ka kb c0 c1 c2 h0 n0) := by
  refine MetFree.of_bodySF (plainFor_of_name pn_StringUTF16) hisR ?_
  intro p e s m args below meth c s₁ Bd hml0 hP hK
  obtain ⟨rfl, hZ, hh⟩ := hP
  have hml : c.maxLocals = 7 := hml0
  obtain ⟨hx, hby, hown, hnm, X0, e0⟩ := own_start Bd hml0 hh
  have N0 := Fr.nil n0
  have pre0 : ∀ t, oS p e below s₁ (mkF m 0 #[rv a0, iv 0, rv a2, iv 0, iv 3, .unset, .unset] []) t → Steps p.tables e below (s₁.setTop (entryFrame m #[(.ref a0), (.int 0), (.ref a2), (.int 0), (.int 3)] 7)) t := fun t k => castTop (by first | (simp [entryFrame, mkF, argsToLocals, Value.category]; done) | rfl) k
  obtain ⟨cl1, Ar1, qk1, Sz1, Ng1, Hs1, Gs1⟩ := id hA
  have hin1 : ¬ ((0 : Int32) < 0 ∨ cl1.slots.size ≤ ((0 : Int32)).toNatClampNeg) := inb_of Sz1 ⟨by decide, by decide⟩
  have hat1 : cl1.slots[((0 : Int32)).toNatClampNeg]? = some (.int c0) := Hs1.at hin1 rfl
  have S2 : ∀ t, oS p e below s₁ (mkF m 25 #[rv a0, iv 0, rv a2, iv 0, iv 3, iv 0, iv c0] [(.int 0)]) t → oS p e below s₁ (mkF m 0 #[rv a0, iv 0, rv a2, iv 0, iv 3, .unset, .unset] []) t := fun t k => id (by
    show oS p e below s₁ (mkF m 0 #[rv a0, iv 0, rv a2, iv 0, iv 3, .unset, .unset] []) _
    refine XT.iconstV X0.here hx rfl (0 : Int32) (hb hby d9_0) (by decide) ?_
    refine XS.istore X0.here hx rfl (hb hby d9_1) rfl (l' := #[rv a0, iv 0, rv a2, iv 0, iv 3, iv 0, .unset]) rfl ?_
    refine XS.iload X0.here hx rfl (hb hby d9_3) rfl ?_
    refine XS.iload X0.here hx rfl (hb hby d9_5) rfl ?_
    refine XS.icmpNo X0.here hx rfl (hb hby d9_7) rfl (XT.ii_ge_f (by decide)) ?_
    refine XS.aloadN X0.here hx rfl (hb hby d9_10) rfl rfl ?_
    refine XS.iloadN X0.here hx rfl (hb hby d9_11) rfl ?_
    refine X0.caload hx (j := (0 : Int32)) (v := (.int c0)) (by rw [e0]; exact Ar1.1) (State.isArrayOf_alike hZ.alike Ar1.2.1) Ar1.2.2 hin1 hat1 (g := (mkF m 12 #[rv a0, iv 0, rv a2, iv 0, iv 3, iv 0, .unset] [(.int 0), (.ref a0)])) rfl rfl (hb hby d9_12) _ ?_
    refine XS.istore X0.here hx rfl (hb hby d9_13) rfl (l' := #[rv a0, iv 0, rv a2, iv 0, iv 3, iv 0, iv c0]) rfl ?_
    refine XS.iload X0.here hx rfl (hb hby d9_15) rfl ?_
    refine XT.sipushV X0.here hx rfl (255 : Int32) (hb hby d9_17) (by decide) ?_
    refine XS.icmpNo X0.here hx rfl (hb hby d9_20) rfl (XT.ii_le_f hbg) ?_
    refine XS.iload X0.here hx rfl (hb hby d9_23) rfl ?_
    exact k)
  obtain ⟨fs, hr, hrun, hended, hW, hsame⟩ := X0.leave (v := some (.int 0)) (fun h => by rw [Bd.returns] at h; cases h)
  refine ⟨_, _, pre0 _ (S2 _ ?_), hrun, hended, _, _, rfl, ?_, ⟨_, rfl⟩, hW, hsame.mono (by decide) (by decide)⟩
  · exact retI X0 hx Bd.returns (hb hby d9_25) hr
  · show QrmCp5_3_0 Z a0 a2 ka kb c0 c1 c2 h0 n0 _ s₁.heap _
    rw [e0]
    exact ⟨congrArg (fun z => some (Value.int z)) (by decide), N0, (Keep.refl _ _), hB⟩
def QrmNbl_3 (Z : State)  (h0 : Heap) (n0 : Nat) (v : Option Value) (h : Heap) (L : List Loc) : Prop := v = some (.int (6 : Int32)) ∧ Fr n0 L ∧ h = h0
set_option maxRecDepth 65536 in
set_option maxHeartbeats 40000000 in
theorem rmNbl_3 (l : Launch) (Z : State) (av0 : Array Value) (hw : ∀ d ∈ tables_1, d.before av0 Z = true) (ws : List Jvm.Cond)  (h0 : Heap) (n0 : Nat) (Z0 : n0 ≤ h0.size)  :
    own_Met l mN24 jdk_52_method_3_code 1 (some .int) ws ({ frames := 0, cells := 0, slots := 0, locals := 0 } : Room) #[(.int 3)] Z h0 (QrmNbl_3 Z  h0 n0) := by
  refine MetFree.of_bodySF (plainFor_of_name pn_StringUTF16) hisR ?_
  intro p e s m args below meth c s₁ Bd hml0 hP hK
  obtain ⟨rfl, hZ, hh⟩ := hP
  have hml : c.maxLocals = 1 := hml0
  obtain ⟨hx, hby, hown, hnm, X0, e0⟩ := own_start Bd hml0 hh
  have N0 := Fr.nil n0
  have pre0 : ∀ t, oS p e below s₁ (mkF m 0 #[iv 3] []) t → Steps p.tables e below (s₁.setTop (entryFrame m #[(.int 3)] 1)) t := fun t k => castTop (by first | (simp [entryFrame, mkF, argsToLocals, Value.category]; done) | rfl) k
  have S1 : ∀ t, oS p e below s₁ (mkF m 58 #[iv 3] [(.int 6)]) t → oS p e below s₁ (mkF m 0 #[iv 3] []) t := fun t k => id (by
    show oS p e below s₁ (mkF m 0 #[iv 3] []) _
    refine XS.iloadN X0.here hx rfl (hb hby d26_0) rfl ?_
    refine XS.ifYes X0.here hx rfl (pc0 := 1) (pc' := 12) rfl (hb hby d26_1) rfl (XT.i0_ge_t (by decide)) (by decide) (by decide) ?_
    refine XS.iloadN X0.here hx rfl (hb hby d26_12) rfl ?_
    refine X0.ldcI hx hown (mvT hZ (hw _ (own_w 111 rfl))) rfl (hb hby d26_13) ?_
    refine XS.icmpYes X0.here hx rfl (pc0 := 15) (pc' := 55) rfl (hb hby d26_15) rfl (XT.ii_lt_t (by decide)) (by decide) (by decide) ?_
    refine XS.iloadN X0.here hx rfl (hb hby d26_55) rfl ?_
    refine XT.iconstV X0.here hx rfl (1 : Int32) (hb hby d26_56) (by decide) ?_
    refine XT.ishl X0.here hx rfl (hb hby d26_57) rfl ?_
    exact k)
  obtain ⟨fs, hr, hrun, hended, hW, hsame⟩ := X0.leave (v := some (.int 6)) (fun h => by rw [Bd.returns] at h; cases h)
  refine ⟨_, _, pre0 _ (S1 _ ?_), hrun, hended, _, _, rfl, ?_, ⟨_, rfl⟩, hW, hsame.mono (by decide) (by decide)⟩
  · exact retI X0 hx Bd.returns (hb hby d26_58) hr
  · show QrmNbl_3 Z  h0 n0 _ s₁.heap _
    rw [e0]
    exact ⟨congrArg (fun z => some (Value.int z)) (by decide), N0, rfl⟩
def QrmNbf_3 (Z : State)  (h0 : Heap) (n0 : Nat) (v : Option Value) (h : Heap) (L : List Loc) : Prop := ∃ (b : Addr) (k : ClassId), v = some (.ref b) ∧ Fr n0 L ∧ h0.size ≤ b ∧ Keep h0 h [] ∧ Arv Z h b k .byte (6 : Int32) [(.int (0 : Int32)), (.int (0 : Int32)), (.int (0 : Int32)), (.int (0 : Int32)), (.int (0 : Int32)), (.int (0 : Int32))] (.int (0 : Int32))
set_option maxRecDepth 65536 in
set_option maxHeartbeats 40000000 in
theorem rmNbf_3 (l : Launch) (Z : State) (av0 : Array Value) (hw : ∀ d ∈ tables_1, d.before av0 Z = true) (ws : List Jvm.Cond)  (h0 : Heap) (n0 : Nat) (Z0 : n0 ≤ h0.size)  :
    own_Met l mN25 jdk_52_method_2_code 1 (some (.array .byte)) ws ({ frames := 1, cells := 1, slots := 6, locals := 12 } : Room) #[(.int 3)] Z h0 (QrmNbf_3 Z  h0 n0) := by
  refine MetFree.of_bodySF (plainFor_of_name pn_StringUTF16) hisR ?_
  intro p e s m args below meth c s₁ Bd hml0 hP hK
  obtain ⟨rfl, hZ, hh⟩ := hP
  have hml : c.maxLocals = 1 := hml0
  obtain ⟨hx, hby, hown, hnm, X0, e0⟩ := own_start Bd hml0 hh
  have N0 := Fr.nil n0
  have pre0 : ∀ t, oS p e below s₁ (mkF m 0 #[iv 3] []) t → Steps p.tables e below (s₁.setTop (entryFrame m #[(.int 3)] 1)) t := fun t k => castTop (by first | (simp [entryFrame, mkF, argsToLocals, Value.category]; done) | rfl) k
  obtain ⟨_, T1, Lc1, X1, hQ1, st1⟩ := own_callS (W := 0) (y := mN24) X0 hx hZ hown (hw _ (own_w 108 rfl)) (hw _ (own_w 109 rfl)) (hw _ (own_w 39 rfl)) (hw _ (own_w 110 rfl)) (by decide) (rmNbl_3 l Z av0 hw []  h0 n0 Z0 ) (by decide) (by decide) (g := (mkF m 1 #[iv 3] [(.int 3)])) rfl (by rw [hml]; rfl) (argsL := [(.int 3)]) (rest := []) (lenOf pd__I_I rfl) rfl (hb hby d25_1) rfl e0 (by decide : 0 + 0 ≤ _) (by decide : 0 + 0 ≤ _)
  obtain ⟨rfl, N1q, hh1⟩ := hQ1
  have N1 := Fr.app N0 N1q
  have e1 : T1.heap = h0 := hh1
  obtain ⟨T2, h2, k2, X2, e2, E2, A2, st2⟩ := newP X1 hx hZ (hw _ (own_w 15 rfl)) e1 (g := (mkF m 4 #[iv 3] [(.int 6)])) rfl (hb hby d25_4) rfl (by decide) (cap := 6) (by decide) (by decide) (by decide) (by decide)
  obtain ⟨b2, g2⟩ : ∃ z, z = h0.size := ⟨_, rfl⟩
  rw [← g2] at A2 st2
  have ge_b2 : n0 ≤ b2 := Nat.le_trans Z0 (Nat.le_of_eq g2.symm)
  have sz_b2 : h0.size ≤ b2 := Nat.le_of_eq g2.symm
  have Z2 : n0 ≤ h2.size := Nat.le_trans Z0 E2.1
  have K2 : Keep h0 h2 [] := (Keep.refl h0 []).ext E2
  have V2 : Arv Z h2 b2 k2 .byte (6 : Int32) [(.int (0 : Int32)), (.int (0 : Int32)), (.int (0 : Int32)), (.int (0 : Int32)), (.int (0 : Int32)), (.int (0 : Int32))] (.int (0 : Int32)) := (Arv.new A2 (by decide)).pad (pad_rep [] (.int (0 : Int32)) 6)
  have S3 : ∀ t, oS p e below T2 (mkF m 6 #[iv 3] [(.ref b2)]) t → oS p e below s₁ (mkF m 0 #[iv 3] []) t := fun t k => id (by
    show oS p e below s₁ (mkF m 0 #[iv 3] []) _
    refine XS.iloadN X0.here hx rfl (hb hby d25_0) rfl ?_
    refine st1 _ ?_
    refine st2 _ ?_
    exact k)
  obtain ⟨fs, hr, hrun, hended, hW, hsame⟩ := X2.leave (v := some (.ref b2)) (fun h => by rw [Bd.returns] at h; cases h)
  refine ⟨_, _, pre0 _ (S3 _ ?_), hrun, hended, _, _, rfl, ?_, ⟨_, rfl⟩, hW, hsame.mono (by decide) (by decide)⟩
  · jvm_step X2.here [X2.here.top, hx, (hb hby d25_6), X2.method', Bd.returns, Value.isRef, FieldType.isReference]
    first | (intro acts; rw [hr _ acts rfl rfl rfl]) | rw [hr _ _ rfl rfl rfl]
    exact Steps.refl _
  · show QrmNbf_3 Z  h0 n0 _ T2.heap _
    rw [e2]
    exact ⟨_, _, rfl, N1, sz_b2, K2, V2⟩
def QrmPut_3_0 (Z : State) (a0 : Addr) (ka : ClassId) (cc : Int32) (h0 : Heap) (n0 : Nat) (v : Option Value) (h : Heap) (L : List Loc) : Prop := v = none ∧ Fr n0 L ∧ Keep h0 h [a0] ∧ Arv Z h a0 ka .byte (6 : Int32) [(.int (own_lo cc)), (.int (own_hi cc)), (.int (0 : Int32)), (.int (0 : Int32)), (.int (0 : Int32)), (.int (0 : Int32))] (.int (0 : Int32))
set_option maxRecDepth 65536 in
set_option maxHeartbeats 40000000 in
theorem rmPut_3_0 (l : Launch) (Z : State) (av0 : Array Value) (hw : ∀ d ∈ tables_1, d.before av0 Z = true) (ws : List Jvm.Cond) (a0 : Addr) (ka : ClassId) (cc : Int32) (h0 : Heap) (n0 : Nat) (Z0 : n0 ≤ h0.size) (hA : Arv Z h0 a0 ka .byte (6 : Int32) [(.int (0 : Int32)), (.int (0 : Int32)), (.int (0 : Int32)), (.int (0 : Int32)), (.int (0 : Int32)), (.int (0 : Int32))] (.int (0 : Int32))) (hge : n0 ≤ a0) (sA : Sta Z h0 "java/lang/StringUTF16" "$assertionsDisabled" "Z" (.int (1 : Int32))) (sH : Sta Z h0 "java/lang/StringUTF16" "HI_BYTE_SHIFT" "I" (.int (0 : Int32))) (sL : Sta Z h0 "java/lang/StringUTF16" "LO_BYTE_SHIFT" "I" (.int (8 : Int32))) :
    own_Met l mN19 jdk_52_method_4_code 3 none ws ({ frames := 0, cells := 0, slots := 0, locals := 0 } : Room) #[(.ref a0), (.int 0), (.int cc)] Z h0 (QrmPut_3_0 Z a0 ka cc h0 n0) := by
  refine MetFree.of_bodySF (plainFor_of_name pn_StringUTF16) hisR ?_
  intro p e s m args below meth c s₁ Bd hml0 hP hK
  obtain ⟨rfl, hZ, hh⟩ := hP
  have hml : c.maxLocals = 3 := hml0
  obtain ⟨hx, hby, hown, hnm, X0, e0⟩ := own_start Bd hml0 hh
  have N0 := Fr.nil n0
  have pre0 : ∀ t, oS p e below s₁ (mkF m 0 #[rv a0, iv 0, iv cc] []) t → Steps p.tables e below (s₁.setTop (entryFrame m #[(.ref a0), (.int 0), (.int cc)] 3)) t := fun t k => castTop (by first | (simp [entryFrame, mkF, argsToLocals, Value.category]; done) | rfl) k
  obtain ⟨T1, X1, e1, st1⟩ := getS2 X0 hx hZ hown (host := "") (Or.inl (hw _ (own_w 99 rfl))) Via.refl e0 sA (g := (mkF m 0 #[rv a0, iv 0, iv cc] [])) rfl (hb hby d23_0)
  obtain ⟨T2, X2, e2, st2⟩ := getS2 X1 hx hZ hown (host := "") (Or.inl (hw _ (own_w 100 rfl))) Via.refl e1 sH (g := (mkF m 38 #[rv a0, iv 1, iv cc] [(.int cc), (.int 0), (.ref a0)])) rfl (hb hby d23_38)
  obtain ⟨cl3, Ar3, qk3, Sz3, Ng3, Hs3, Gs3⟩ := id hA
  have hin3 : ¬ ((0 : Int32) < 0 ∨ cl3.slots.size ≤ ((0 : Int32)).toNatClampNeg) := inb_of Sz3 ⟨by decide, by decide⟩
  obtain ⟨T4, h4, X4, e4, W4, st4⟩ := stB X2 hx hZ e2 Ar3 (j := (0 : Int32)) hin3 (g := (mkF m 43 #[rv a0, iv 1, iv cc] [(.int ((cc >>> ((0 : Int32) &&& 31))).toInt8.toInt32), (.int 0), (.ref a0)])) rfl rfl (hb hby d23_43)
  have N4 := Fr.snoc X4 N0 hge
  have Z4 : n0 ≤ h4.size := Nat.le_trans Z0 (Nat.le_of_eq W4.size.symm)
  have K4 : Keep h0 h4 [a0] := (Keep.refl h0 [a0]).wr W4 (Or.inl (List.mem_of_getElem? (i := 0) rfl))
  have V4 : Arv Z h4 a0 ka .byte (6 : Int32) [(.int (nar .byte ((cc >>> ((0 : Int32) &&& 31))).toInt8.toInt32)), (.int (0 : Int32)), (.int (0 : Int32)), (.int (0 : Int32)), (.int (0 : Int32)), (.int (0 : Int32))] (.int (0 : Int32)) := Arv.set Ar3 qk3 Sz3 Ng3 Hs3 Gs3 (fits_nar_byte _) W4 0 rfl (Nat.le_of_ble_eq_true rfl)
  have f5 := (sL.wr W4)
  obtain ⟨T6, X6, e6, st6⟩ := getS2 X4 hx hZ hown (host := "") (Or.inl (hw _ (own_w 101 rfl))) Via.refl e4 f5 (g := (mkF m 47 #[rv a0, iv 1, iv cc] [(.int cc), (.int 1), (.ref a0)])) rfl (hb hby d23_47)
  obtain ⟨cl7, Ar7, qk7, Sz7, Ng7, Hs7, Gs7⟩ := id V4
  have hin7 : ¬ ((1 : Int32) < 0 ∨ cl7.slots.size ≤ ((1 : Int32)).toNatClampNeg) := inb_of Sz7 ⟨by decide, by decide⟩
  obtain ⟨T8, h8, X8, e8, W8, st8⟩ := stB X6 hx hZ e6 Ar7 (j := (1 : Int32)) hin7 (g := (mkF m 52 #[rv a0, iv 1, iv cc] [(.int ((cc >>> ((8 : Int32) &&& 31))).toInt8.toInt32), (.int 1), (.ref a0)])) rfl rfl (hb hby d23_52)
  have N8 := Fr.snoc X8 N4 hge
  have Z8 : n0 ≤ h8.size := Nat.le_trans Z4 (Nat.le_of_eq W8.size.symm)
  have K8 : Keep h0 h8 [a0] := K4.wr W8 (Or.inl (List.mem_of_getElem? (i := 0) rfl))
  have V8 : Arv Z h8 a0 ka .byte (6 : Int32) [(.int (nar .byte ((cc >>> ((0 : Int32) &&& 31))).toInt8.toInt32)), (.int (nar .byte ((cc >>> ((8 : Int32) &&& 31))).toInt8.toInt32)), (.int (0 : Int32)), (.int (0 : Int32)), (.int (0 : Int32)), (.int (0 : Int32))] (.int (0 : Int32)) := Arv.set Ar7 qk7 Sz7 Ng7 Hs7 Gs7 (fits_nar_byte _) W8 1 rfl (Nat.le_of_ble_eq_true rfl)
  have S9 : ∀ t, oS p e below T8 (mkF m 53 #[rv a0, iv 1, iv cc] []) t → oS p e below s₁ (mkF m 0 #[rv a0, iv 0, iv cc] []) t := fun t k => id (by
    show oS p e below s₁ (mkF m 0 #[rv a0, iv 0, iv cc] []) _
    refine st1 _ ?_
    refine XS.ifYes X1.here hx rfl (pc0 := 3) (pc' := 28) rfl (hb hby d23_3) rfl (XT.i0_ne_t (by decide)) (by decide) (by decide) ?_
    refine XS.iloadN X1.here hx rfl (hb hby d23_28) rfl ?_
    refine XT.iconstV X1.here hx rfl (1 : Int32) (hb hby d23_29) (by decide) ?_
    refine XT.ishl X1.here hx rfl (hb hby d23_30) rfl ?_
    refine XS.istoreN X1.here hx rfl (hb hby d23_31) rfl (l' := #[rv a0, iv 0, iv cc]) rfl ?_
    refine XS.aloadN X1.here hx rfl (hb hby d23_32) rfl rfl ?_
    refine XS.iloadN X1.here hx rfl (hb hby d23_33) rfl ?_
    refine XT.iincV X1.here hx rfl (1 : Int32) (hb hby d23_34) (by decide) rfl (l' := #[rv a0, iv 1, iv cc]) rfl ?_
    refine XS.iloadN X1.here hx rfl (hb hby d23_37) rfl ?_
    refine st2 _ ?_
    refine XT.ishr X2.here hx rfl (hb hby d23_41) rfl ?_
    refine XT.i2b X2.here hx rfl (hb hby d23_42) rfl ?_
    refine st4 _ ?_
    refine XS.aloadN X4.here hx rfl (hb hby d23_44) rfl rfl ?_
    show oS p e below T4 (mkF m 45 #[rv a0, iv 1, iv cc] [(.ref a0)]) _
    refine XS.iloadN X4.here hx rfl (hb hby d23_45) rfl ?_
    refine XS.iloadN X4.here hx rfl (hb hby d23_46) rfl ?_
    refine st6 _ ?_
    refine XT.ishr X6.here hx rfl (hb hby d23_50) rfl ?_
    refine XT.i2b X6.here hx rfl (hb hby d23_51) rfl ?_
    refine st8 _ ?_
    exact k)
  obtain ⟨fs, hr, hrun, hended, hW, hsame⟩ := X8.leave (v := none) (fun _ => rfl)
  refine ⟨_, _, pre0 _ (S9 _ ?_), hrun, hended, _, _, rfl, ?_, ⟨_, rfl⟩, hW, hsame.mono (by decide) (by decide)⟩
  · exact X8.returnOut hx Bd.returns (hb hby d23_53) hr
  · show QrmPut_3_0 Z a0 ka cc h0 n0 _ T8.heap _
    rw [e8]
    exact ⟨rfl, N8, K8, V8⟩
def QrmPut_3_1 (Z : State) (a0 : Addr) (ka : ClassId) (cc : Int32) (c0 : Int32) (h0 : Heap) (n0 : Nat) (v : Option Value) (h : Heap) (L : List Loc) : Prop := v = none ∧ Fr n0 L ∧ Keep h0 h [a0] ∧ Arv Z h a0 ka .byte (6 : Int32) [(.int (own_lo c0)), (.int (own_hi c0)), (.int (own_lo cc)), (.int (own_hi cc)), (.int (0 : Int32)), (.int (0 : Int32))] (.int (0 : Int32))
set_option maxRecDepth 65536 in
set_option maxHeartbeats 40000000 in
theorem rmPut_3_1 (l : Launch) (Z : State) (av0 : Array Value) (hw : ∀ d ∈ tables_1, d.before av0 Z = true) (ws : List Jvm.Cond) (a0 : Addr) (ka : ClassId) (cc : Int32) (c0 : Int32) (h0 : Heap) (n0 : Nat) (Z0 : n0 ≤ h0.size) (hA : Arv Z h0 a0 ka .byte (6 : Int32) [(.int (own_lo c0)), (.int (own_hi c0)), (.int (0 : Int32)), (.int (0 : Int32)), (.int (0 : Int32)), (.int (0 : Int32))] (.int (0 : Int32))) (hge : n0 ≤ a0) (sA : Sta Z h0 "java/lang/StringUTF16" "$assertionsDisabled" "Z" (.int (1 : Int32))) (sH : Sta Z h0 "java/lang/StringUTF16" "HI_BYTE_SHIFT" "I" (.int (0 : Int32))) (sL : Sta Z h0 "java/lang/StringUTF16" "LO_BYTE_SHIFT" "I" (.int (8 : Int32))) :
    own_Met l mN19 jdk_52_method_4_code 3 none ws ({ frames := 0, cells := 0, slots := 0, locals := 0 } : Room) #[(.ref a0), (.int 1), (.int cc)] Z h0 (QrmPut_3_1 Z a0 ka cc c0 h0 n0) := by
  refine MetFree.of_bodySF (plainFor_of_name pn_StringUTF16) hisR ?_
  intro p e s m args below meth c s₁ Bd hml0 hP hK
  obtain ⟨rfl, hZ, hh⟩ := hP
  have hml : c.maxLocals = 3 := hml0
  obtain ⟨hx, hby, hown, hnm, X0, e0⟩ := own_start Bd hml0 hh
  have N0 := Fr.nil n0
  have pre0 : ∀ t, oS p e below s₁ (mkF m 0 #[rv a0, iv 1, iv cc] []) t → Steps p.tables e below (s₁.setTop (entryFrame m #[(.ref a0), (.int 1), (.int cc)] 3)) t := fun t k => castTop (by first | (simp [entryFrame, mkF, argsToLocals, Value.category]; done) | rfl) k
  obtain ⟨T1, X1, e1, st1⟩ := getS2 X0 hx hZ hown (host := "") (Or.inl (hw _ (own_w 99 rfl))) Via.refl e0 sA (g := (mkF m 0 #[rv a0, iv 1, iv cc] [])) rfl (hb hby d23_0)
  obtain ⟨T2, X2, e2, st2⟩ := getS2 X1 hx hZ hown (host := "") (Or.inl (hw _ (own_w 100 rfl))) Via.refl e1 sH (g := (mkF m 38 #[rv a0, iv 3, iv cc] [(.int cc), (.int 2), (.ref a0)])) rfl (hb hby d23_38)
  obtain ⟨cl3, Ar3, qk3, Sz3, Ng3, Hs3, Gs3⟩ := id hA
  have hin3 : ¬ ((2 : Int32) < 0 ∨ cl3.slots.size ≤ ((2 : Int32)).toNatClampNeg) := inb_of Sz3 ⟨by decide, by decide⟩
  obtain ⟨T4, h4, X4, e4, W4, st4⟩ := stB X2 hx hZ e2 Ar3 (j := (2 : Int32)) hin3 (g := (mkF m 43 #[rv a0, iv 3, iv cc] [(.int ((cc >>> ((0 : Int32) &&& 31))).toInt8.toInt32), (.int 2), (.ref a0)])) rfl rfl (hb hby d23_43)
  have N4 := Fr.snoc X4 N0 hge
  have Z4 : n0 ≤ h4.size := Nat.le_trans Z0 (Nat.le_of_eq W4.size.symm)
  have K4 : Keep h0 h4 [a0] := (Keep.refl h0 [a0]).wr W4 (Or.inl (List.mem_of_getElem? (i := 0) rfl))
  have V4 : Arv Z h4 a0 ka .byte (6 : Int32) [(.int (own_lo c0)), (.int (own_hi c0)), (.int (nar .byte ((cc >>> ((0 : Int32) &&& 31))).toInt8.toInt32)), (.int (0 : Int32)), (.int (0 : Int32)), (.int (0 : Int32))] (.int (0 : Int32)) := Arv.set Ar3 qk3 Sz3 Ng3 Hs3 Gs3 (fits_nar_byte _) W4 2 rfl (Nat.le_of_ble_eq_true rfl)
  have f5 := (sL.wr W4)
  obtain ⟨T6, X6, e6, st6⟩ := getS2 X4 hx hZ hown (host := "") (Or.inl (hw _ (own_w 101 rfl))) Via.refl e4 f5 (g := (mkF m 47 #[rv a0, iv 3, iv cc] [(.int cc), (.int 3), (.ref a0)])) rfl (hb hby d23_47)
  obtain ⟨cl7, Ar7, qk7, Sz7, Ng7, Hs7, Gs7⟩ := id V4
  have hin7 : ¬ ((3 : Int32) < 0 ∨ cl7.slots.size ≤ ((3 : Int32)).toNatClampNeg) := inb_of Sz7 ⟨by decide, by decide⟩
  obtain ⟨T8, h8, X8, e8, W8, st8⟩ := stB X6 hx hZ e6 Ar7 (j := (3 : Int32)) hin7 (g := (mkF m 52 #[rv a0, iv 3, iv cc] [(.int ((cc >>> ((8 : Int32) &&& 31))).toInt8.toInt32), (.int 3), (.ref a0)])) rfl rfl (hb hby d23_52)
  have N8 := Fr.snoc X8 N4 hge
  have Z8 : n0 ≤ h8.size := Nat.le_trans Z4 (Nat.le_of_eq W8.size.symm)
  have K8 : Keep h0 h8 [a0] := K4.wr W8 (Or.inl (List.mem_of_getElem? (i := 0) rfl))
  have V8 : Arv Z h8 a0 ka .byte (6 : Int32) [(.int (own_lo c0)), (.int (own_hi c0)), (.int (nar .byte ((cc >>> ((0 : Int32) &&& 31))).toInt8.toInt32)), (.int (nar .byte ((cc >>> ((8 : Int32) &&& 31))).toInt8.toInt32)), (.int (0 : Int32)), (.int (0 : Int32))] (.int (0 : Int32)) := Arv.set Ar7 qk7 Sz7 Ng7 Hs7 Gs7 (fits_nar_byte _) W8 3 rfl (Nat.le_of_ble_eq_true rfl)
  have S9 : ∀ t, oS p e below T8 (mkF m 53 #[rv a0, iv 3, iv cc] []) t → oS p e below s₁ (mkF m 0 #[rv a0, iv 1, iv cc] []) t := fun t k => id (by
    show oS p e below s₁ (mkF m 0 #[rv a0, iv 1, iv cc] []) _
    refine st1 _ ?_
    refine XS.ifYes X1.here hx rfl (pc0 := 3) (pc' := 28) rfl (hb hby d23_3) rfl (XT.i0_ne_t (by decide)) (by decide) (by decide) ?_
    refine XS.iloadN X1.here hx rfl (hb hby d23_28) rfl ?_
    refine XT.iconstV X1.here hx rfl (1 : Int32) (hb hby d23_29) (by decide) ?_
    refine XT.ishl X1.here hx rfl (hb hby d23_30) rfl ?_
    refine XS.istoreN X1.here hx rfl (hb hby d23_31) rfl (l' := #[rv a0, iv 2, iv cc]) rfl ?_
    refine XS.aloadN X1.here hx rfl (hb hby d23_32) rfl rfl ?_
    refine XS.iloadN X1.here hx rfl (hb hby d23_33) rfl ?_
    refine XT.iincV X1.here hx rfl (1 : Int32) (hb hby d23_34) (by decide) rfl (l' := #[rv a0, iv 3, iv cc]) rfl ?_
    refine XS.iloadN X1.here hx rfl (hb hby d23_37) rfl ?_
    refine st2 _ ?_
    refine XT.ishr X2.here hx rfl (hb hby d23_41) rfl ?_
    refine XT.i2b X2.here hx rfl (hb hby d23_42) rfl ?_
    refine st4 _ ?_
    refine XS.aloadN X4.here hx rfl (hb hby d23_44) rfl rfl ?_
    show oS p e below T4 (mkF m 45 #[rv a0, iv 3, iv cc] [(.ref a0)]) _
    refine XS.iloadN X4.here hx rfl (hb hby d23_45) rfl ?_
    refine XS.iloadN X4.here hx rfl (hb hby d23_46) rfl ?_
    refine st6 _ ?_
    refine XT.ishr X6.here hx rfl (hb hby d23_50) rfl ?_
    refine XT.i2b X6.here hx rfl (hb hby d23_51) rfl ?_
    refine st8 _ ?_
    exact k)
  obtain ⟨fs, hr, hrun, hended, hW, hsame⟩ := X8.leave (v := none) (fun _ => rfl)
  refine ⟨_, _, pre0 _ (S9 _ ?_), hrun, hended, _, _, rfl, ?_, ⟨_, rfl⟩, hW, hsame.mono (by decide) (by decide)⟩
  · exact X8.returnOut hx Bd.returns (hb hby d23_53) hr
  · show QrmPut_3_1 Z a0 ka cc c0 h0 n0 _ T8.heap _
    rw [e8]
    exact ⟨rfl, N8, K8, V8⟩
def QrmPut_3_2 (Z : State) (a0 : Addr) (ka : ClassId) (cc : Int32) (c0 : Int32) (c1 : Int32) (h0 : Heap) (n0 : Nat) (v : Option Value) (h : Heap) (L : List Loc) : Prop := v = none ∧ Fr n0 L ∧ Keep h0 h [a0] ∧ Arv Z h a0 ka .byte (6 : Int32) [(.int (own_lo c0)), (.int (own_hi c0)), (.int (own_lo c1)), (.int (own_hi c1)), (.int (own_lo cc)), (.int (own_hi cc))] (.int (0 : Int32))
set_option maxRecDepth 65536 in
set_option maxHeartbeats 40000000 in
theorem rmPut_3_2 (l : Launch) (Z : State) (av0 : Array Value) (hw : ∀ d ∈ tables_1, d.before av0 Z = true) (ws : List Jvm.Cond) (a0 : Addr) (ka : ClassId) (cc : Int32) (c0 : Int32) (c1 : Int32) (h0 : Heap) (n0 : Nat) (Z0 : n0 ≤ h0.size) (hA : Arv Z h0 a0 ka .byte (6 : Int32) [(.int (own_lo c0)), (.int (own_hi c0)), (.int (own_lo c1)), (.int (own_hi c1)), (.int (0 : Int32)), (.int (0 : Int32))] (.int (0 : Int32))) (hge : n0 ≤ a0) (sA : Sta Z h0 "java/lang/StringUTF16" "$assertionsDisabled" "Z" (.int (1 : Int32))) (sH : Sta Z h0 "java/lang/StringUTF16" "HI_BYTE_SHIFT" "I" (.int (0 : Int32))) (sL : Sta Z h0 "java/lang/StringUTF16" "LO_BYTE_SHIFT" "I" (.int (8 : Int32))) :
    own_Met l mN19 jdk_52_method_4_code 3 none ws ({ frames := 0, cells := 0, slots := 0, locals := 0 } : Room) #[(.ref a0), (.int 2), (.int cc)] Z h0 (QrmPut_3_2 Z a0 ka cc c0 c1 h0 n0) := by
  refine MetFree.of_bodySF (plainFor_of_name pn_StringUTF16) hisR ?_
  intro p e s m args below meth c s₁ Bd hml0 hP hK
  obtain ⟨rfl, hZ, hh⟩ := hP
  have hml : c.maxLocals = 3 := hml0
  obtain ⟨hx, hby, hown, hnm, X0, e0⟩ := own_start Bd hml0 hh
  have N0 := Fr.nil n0
  have pre0 : ∀ t, oS p e below s₁ (mkF m 0 #[rv a0, iv 2, iv cc] []) t → Steps p.tables e below (s₁.setTop (entryFrame m #[(.ref a0), (.int 2), (.int cc)] 3)) t := fun t k => castTop (by first | (simp [entryFrame, mkF, argsToLocals, Value.category]; done) | rfl) k
  obtain ⟨T1, X1, e1, st1⟩ := getS2 X0 hx hZ hown (host := "") (Or.inl (hw _ (own_w 99 rfl))) Via.refl e0 sA (g := (mkF m 0 #[rv a0, iv 2, iv cc] [])) rfl (hb hby d23_0)
  obtain ⟨T2, X2, e2, st2⟩ := getS2 X1 hx hZ hown (host := "") (Or.inl (hw _ (own_w 100 rfl))) Via.refl e1 sH (g := (mkF m 38 #[rv a0, iv 5, iv cc] [(.int cc), (.int 4), (.ref a0)])) rfl (hb hby d23_38)
  obtain ⟨cl3, Ar3, qk3, Sz3, Ng3, Hs3, Gs3⟩ := id hA
  have hin3 : ¬ ((4 : Int32) < 0 ∨ cl3.slots.size ≤ ((4 : Int32)).toNatClampNeg) := inb_of Sz3 ⟨by decide, by decide⟩
  obtain ⟨T4, h4, X4, e4, W4, st4⟩ := stB X2 hx hZ e2 Ar3 (j := (4 : Int32)) hin3 (g := (mkF m 43 #[rv a0, iv 5, iv cc] [(.int ((cc >>> ((0 : Int32) &&& 31))).toInt8.toInt32), (.int 4), (.ref a0)])) rfl rfl (hb hby d23_43)
  have N4 := Fr.snoc X4 N0 hge
  have Z4 : n0 ≤ h4.size := Nat.le_trans Z0 (Nat.le_of_eq W4.size.symm)
  have K4 : Keep h0 h4 [a0] := (Keep.refl h0 [a0]).wr W4 (Or.inl (List.mem_of_getElem? (i := 0) rfl))
  have V4 : Arv Z h4 a0 ka .byte (6 : Int32) [(.int (own_lo c0)), (.int (own_hi c0)), (.int (own_lo c1)), (.int (own_hi c1)), (.int (nar .byte ((cc >>> ((0 : Int32) &&& 31))).toInt8.toInt32)), (.int (0 : Int32))] (.int (0 : Int32)) := Arv.set Ar3 qk3 Sz3 Ng3 Hs3 Gs3 (fits_nar_byte _) W4 4 rfl (Nat.le_of_ble_eq_true rfl)
  have f5 := (sL.wr W4)
  obtain ⟨T6, X6, e6, st6⟩ := getS2 X4 hx hZ hown (host := "") (Or.inl (hw _ (own_w 101 rfl))) Via.refl e4 f5 (g := (mkF m 47 #[rv a0, iv 5, iv cc] [(.int cc), (.int 5), (.ref a0)])) rfl (hb hby d23_47)
  obtain ⟨cl7, Ar7, qk7, Sz7, Ng7, Hs7, Gs7⟩ := id V4
  have hin7 : ¬ ((5 : Int32) < 0 ∨ cl7.slots.size ≤ ((5 : Int32)).toNatClampNeg) := inb_of Sz7 ⟨by decide, by decide⟩
  obtain ⟨T8, h8, X8, e8, W8, st8⟩ := stB X6 hx hZ e6 Ar7 (j := (5 : Int32)) hin7 (g := (mkF m 52 #[rv a0, iv 5, iv cc] [(.int ((cc >>> ((8 : Int32) &&& 31))).toInt8.toInt32), (.int 5), (.ref a0)])) rfl rfl (hb hby d23_52)
  have N8 := Fr.snoc X8 N4 hge
  have Z8 : n0 ≤ h8.size := Nat.le_trans Z4 (Nat.le_of_eq W8.size.symm)
  have K8 : Keep h0 h8 [a0] := K4.wr W8 (Or.inl (List.mem_of_getElem? (i := 0) rfl))
  have V8 : Arv Z h8 a0 ka .byte (6 : Int32) [(.int (own_lo c0)), (.int (own_hi c0)), (.int (own_lo c1)), (.int (own_hi c1)), (.int (nar .byte ((cc >>> ((0 : Int32) &&& 31))).toInt8.toInt32)), (.int (nar .byte ((cc >>> ((8 : Int32) &&& 31))).toInt8.toInt32))] (.int (0 : Int32)) := Arv.set Ar7 qk7 Sz7 Ng7 Hs7 Gs7 (fits_nar_byte _) W8 5 rfl (Nat.le_of_ble_eq_true rfl)
  have S9 : ∀ t, oS p e below T8 (mkF m 53 #[rv a0, iv 5, iv cc] []) t → oS p e below s₁ (mkF m 0 #[rv a0, iv 2, iv cc] []) t := fun t k => id (by
    show oS p e below s₁ (mkF m 0 #[rv a0, iv 2, iv cc] []) _
    refine st1 _ ?_
    refine XS.ifYes X1.here hx rfl (pc0 := 3) (pc' := 28) rfl (hb hby d23_3) rfl (XT.i0_ne_t (by decide)) (by decide) (by decide) ?_
    refine XS.iloadN X1.here hx rfl (hb hby d23_28) rfl ?_
    refine XT.iconstV X1.here hx rfl (1 : Int32) (hb hby d23_29) (by decide) ?_
    refine XT.ishl X1.here hx rfl (hb hby d23_30) rfl ?_
    refine XS.istoreN X1.here hx rfl (hb hby d23_31) rfl (l' := #[rv a0, iv 4, iv cc]) rfl ?_
    refine XS.aloadN X1.here hx rfl (hb hby d23_32) rfl rfl ?_
    refine XS.iloadN X1.here hx rfl (hb hby d23_33) rfl ?_
    refine XT.iincV X1.here hx rfl (1 : Int32) (hb hby d23_34) (by decide) rfl (l' := #[rv a0, iv 5, iv cc]) rfl ?_
    refine XS.iloadN X1.here hx rfl (hb hby d23_37) rfl ?_
    refine st2 _ ?_
    refine XT.ishr X2.here hx rfl (hb hby d23_41) rfl ?_
    refine XT.i2b X2.here hx rfl (hb hby d23_42) rfl ?_
    refine st4 _ ?_
    refine XS.aloadN X4.here hx rfl (hb hby d23_44) rfl rfl ?_
    show oS p e below T4 (mkF m 45 #[rv a0, iv 5, iv cc] [(.ref a0)]) _
    refine XS.iloadN X4.here hx rfl (hb hby d23_45) rfl ?_
    refine XS.iloadN X4.here hx rfl (hb hby d23_46) rfl ?_
    refine st6 _ ?_
    refine XT.ishr X6.here hx rfl (hb hby d23_50) rfl ?_
    refine XT.i2b X6.here hx rfl (hb hby d23_51) rfl ?_
    refine st8 _ ?_
    exact k)
  obtain ⟨fs, hr, hrun, hended, hW, hsame⟩ := X8.leave (v := none) (fun _ => rfl)
  refine ⟨_, _, pre0 _ (S9 _ ?_), hrun, hended, _, _, rfl, ?_, ⟨_, rfl⟩, hW, hsame.mono (by decide) (by decide)⟩
  · exact X8.returnOut hx Bd.returns (hb hby d23_53) hr
  · show QrmPut_3_2 Z a0 ka cc c0 c1 h0 n0 _ T8.heap _
    rw [e8]
    exact ⟨rfl, N8, K8, V8⟩
def QrmTb_3 (Z : State) (a0 : Addr) (ka : ClassId) (c0 : Int32) (c1 : Int32) (c2 : Int32) (h0 : Heap) (n0 : Nat) (v : Option Value) (h : Heap) (L : List Loc) : Prop := ∃ (b : Addr) (k : ClassId), v = some (.ref b) ∧ Fr n0 L ∧ h0.size ≤ b ∧ Keep h0 h [] ∧ Arv Z h b k .byte (6 : Int32) [(.int (own_lo c0)), (.int (own_hi c0)), (.int (own_lo c1)), (.int (own_hi c1)), (.int (own_lo c2)), (.int (own_hi c2))] (.int (0 : Int32))
set_option maxRecDepth 65536 in
set_option maxHeartbeats 40000000 in
theorem rmTb_3 (l : Launch) (Z : State) (av0 : Array Value) (hw : ∀ d ∈ tables_1, d.before av0 Z = true) (ws : List Jvm.Cond) (a0 : Addr) (ka : ClassId) (c0 : Int32) (c1 : Int32) (c2 : Int32) (h0 : Heap) (n0 : Nat) (Z0 : n0 ≤ h0.size) (hA : Arv Z h0 a0 ka .char (3 : Int32) [(.int c0), (.int c1), (.int c2)] (.int (0 : Int32))) (sA : Sta Z h0 "java/lang/StringUTF16" "$assertionsDisabled" "Z" (.int (1 : Int32))) (sH : Sta Z h0 "java/lang/StringUTF16" "HI_BYTE_SHIFT" "I" (.int (0 : Int32))) (sL : Sta Z h0 "java/lang/StringUTF16" "LO_BYTE_SHIFT" "I" (.int (8 : Int32))) :
    own_Met l mN26 jdk_52_method_14_code 5 (some (.array .byte)) ws ({ frames := 2, cells := 1, slots := 6, locals := 24 } : Room) #[(.ref a0), (.int 0), (.int 3)] Z h0 (QrmTb_3 Z a0 ka c0 c1 c2 h0 n0) := by
  refine MetFree.of_bodySF (plainFor_of_name pn_StringUTF16) hisR ?_
  intro p e s m args below meth c s₁ Bd hml0 hP hK
  obtain ⟨rfl, hZ, hh⟩ := hP
  have hml : c.maxLocals = 5 := hml0
  obtain ⟨hx, hby, hown, hnm, X0, e0⟩ := own_start Bd hml0 hh
  have N0 := Fr.nil n0
  have pre0 : ∀ t, oS p e below s₁ (mkF m 0 #[rv a0, iv 0, iv 3, .unset, .unset] []) t → Steps p.tables e below (s₁.setTop (entryFrame m #[(.ref a0), (.int 0), (.int 3)] 5)) t := fun t k => castTop (by first | (simp [entryFrame, mkF, argsToLocals, Value.category]; done) | rfl) k
  obtain ⟨_, T1, Lc1, X1, hQ1, st1⟩ := own_callS (W := 0) (y := mN25) X0 hx hZ hown (hw _ (own_w 105 rfl)) (hw _ (own_w 106 rfl)) (hw _ (own_w 39 rfl)) (hw _ (own_w 107 rfl)) (by decide) (rmNbf_3 l Z av0 hw []  h0 n0 Z0 ) (by decide) (by decide) (g := (mkF m 1 #[rv a0, iv 0, iv 3, .unset, .unset] [(.int 3)])) rfl (by rw [hml]; rfl) (argsL := [(.int 3)]) (rest := []) (lenOf pd__I_B rfl) rfl (hb hby d24_1) rfl e0 (by decide : 0 + 1 ≤ _) (by decide : 0 + 6 ≤ _)
  obtain ⟨b1, kb1, rfl, N1q, gb1, K1, V1⟩ := hQ1
  have N1 := Fr.app N0 N1q
  have e1 : T1.heap = T1.heap := rfl
  have ne_a0_b1 : a0 ≠ b1 := Nat.ne_of_lt (Nat.lt_of_lt_of_le hA.lt gb1)
  have ge_b1 : n0 ≤ b1 := Nat.le_trans Z0 gb1
  have sz_b1 : h0.size ≤ b1 := gb1
  have Zk1 : n0 ≤ T1.heap.size := Nat.le_trans Z0 K1.1
  have Kk1 : Keep h0 T1.heap [] := (Keep.refl h0 []).trans K1 all0
  have f2 := (hA.keep K1 nin0)
  obtain ⟨cl3, Ar3, qk3, Sz3, Ng3, Hs3, Gs3⟩ := id f2
  have hin3 : ¬ ((0 : Int32) < 0 ∨ cl3.slots.size ≤ ((0 : Int32)).toNatClampNeg) := inb_of Sz3 ⟨by decide, by decide⟩
  have hat3 : cl3.slots[((0 : Int32)).toNatClampNeg]? = some (.int c0) := Hs3.at hin3 rfl
  have f4 := (own_stak sA K1 all0)
  have f5 := (own_stak sH K1 all0)
  have f6 := (own_stak sL K1 all0)
  obtain ⟨_, T7, Lc7, X7, hQ7, st7⟩ := own_callS (W := 0) (y := mN19) X1 hx hZ hown (hw _ (own_w 96 rfl)) (hw _ (own_w 97 rfl)) (hw _ (own_w 39 rfl)) (hw _ (own_w 98 rfl)) (by decide) (rmPut_3_0 l Z av0 hw [] b1 kb1 c0  T1.heap n0 Zk1 V1 ge_b1 f4 f5 f6) (by decide) (by decide) (g := (mkF m 20 #[rv a0, iv 0, iv 3, rv b1, iv 0] [(.int c0), (.int 0), (.ref b1)])) rfl (by rw [hml]; rfl) (argsL := [(.ref b1), (.int 0), (.int c0)]) (rest := []) (lenOf pd__BII_V rfl) rfl (hb hby d24_20) rfl e1 (by decide : 1 + 0 ≤ _) (by decide : 6 + 0 ≤ _)
  obtain ⟨rfl, N7q, K7, V7⟩ := hQ7
  have N7 := Fr.app N1 N7q
  have e7 : T7.heap = T7.heap := rfl
  have Zk7 : n0 ≤ T7.heap.size := Nat.le_trans Zk1 K7.1
  have Kk7 : Keep h0 T7.heap [] := Kk1.trans K7 (allS (Or.inr sz_b1) all0)
  have f8 := (f2.keep K7 (ninS ne_a0_b1 nin0))
  obtain ⟨cl9, Ar9, qk9, Sz9, Ng9, Hs9, Gs9⟩ := id f8
  have hin9 : ¬ ((1 : Int32) < 0 ∨ cl9.slots.size ≤ ((1 : Int32)).toNatClampNeg) := inb_of Sz9 ⟨by decide, by decide⟩
  have hat9 : cl9.slots[((1 : Int32)).toNatClampNeg]? = some (.int c1) := Hs9.at hin9 rfl
  have f10 := (own_stak f4 K7 (allS (own_arns V1) all0))
  have f11 := (own_stak f5 K7 (allS (own_arns V1) all0))
  have f12 := (own_stak f6 K7 (allS (own_arns V1) all0))
  obtain ⟨_, T13, Lc13, X13, hQ13, st13⟩ := own_callS (W := 0) (y := mN19) X7 hx hZ hown (hw _ (own_w 96 rfl)) (hw _ (own_w 97 rfl)) (hw _ (own_w 39 rfl)) (hw _ (own_w 98 rfl)) (by decide) (rmPut_3_1 l Z av0 hw [] b1 kb1 c1 c0 T7.heap n0 Zk7 V7 ge_b1 f10 f11 f12) (by decide) (by decide) (g := (mkF m 20 #[rv a0, iv 1, iv 3, rv b1, iv 1] [(.int c1), (.int 1), (.ref b1)])) rfl (by rw [hml]; rfl) (argsL := [(.ref b1), (.int 1), (.int c1)]) (rest := []) (lenOf pd__BII_V rfl) rfl (hb hby d24_20) rfl e7 (by decide : 1 + 0 ≤ _) (by decide : 6 + 0 ≤ _)
  obtain ⟨rfl, N13q, K13, V13⟩ := hQ13
  have N13 := Fr.app N7 N13q
  have e13 : T13.heap = T13.heap := rfl
  have Zk13 : n0 ≤ T13.heap.size := Nat.le_trans Zk7 K13.1
  have Kk13 : Keep h0 T13.heap [] := Kk7.trans K13 (allS (Or.inr sz_b1) all0)
  have f14 := (f8.keep K13 (ninS ne_a0_b1 nin0))
  obtain ⟨cl15, Ar15, qk15, Sz15, Ng15, Hs15, Gs15⟩ := id f14
  have hin15 : ¬ ((2 : Int32) < 0 ∨ cl15.slots.size ≤ ((2 : Int32)).toNatClampNeg) := inb_of Sz15 ⟨by decide, by decide⟩
  have hat15 : cl15.slots[((2 : Int32)).toNatClampNeg]? = some (.int c2) := Hs15.at hin15 rfl
  have f16 := (own_stak f10 K13 (allS (own_arns V7) all0))
  have f17 := (own_stak f11 K13 (allS (own_arns V7) all0))
  have f18 := (own_stak f12 K13 (allS (own_arns V7) all0))
  obtain ⟨_, T19, Lc19, X19, hQ19, st19⟩ := own_callS (W := 0) (y := mN19) X13 hx hZ hown (hw _ (own_w 96 rfl)) (hw _ (own_w 97 rfl)) (hw _ (own_w 39 rfl)) (hw _ (own_w 98 rfl)) (by decide) (rmPut_3_2 l Z av0 hw [] b1 kb1 c2 c0 c1 T13.heap n0 Zk13 V13 ge_b1 f16 f17 f18) (by decide) (by decide) (g := (mkF m 20 #[rv a0, iv 2, iv 3, rv b1, iv 2] [(.int c2), (.int 2), (.ref b1)])) rfl (by rw [hml]; rfl) (argsL := [(.ref b1), (.int 2), (.int c2)]) (rest := []) (lenOf pd__BII_V rfl) rfl (hb hby d24_20) rfl e13 (by decide : 1 + 0 ≤ _) (by decide : 6 + 0 ≤ _)
  obtain ⟨rfl, N19q, K19, V19⟩ := hQ19
  have N19 := Fr.app N13 N19q
  have e19 : T19.heap = T19.heap := rfl
  have Zk19 : n0 ≤ T19.heap.size := Nat.le_trans Zk13 K19.1
  have Kk19 : Keep h0 T19.heap [] := Kk13.trans K19 (allS (Or.inr sz_b1) all0)
  have S20 : ∀ t, oS p e below T19 (mkF m 33 #[rv a0, iv 3, iv 3, rv b1, iv 3] [(.ref b1)]) t → oS p e below s₁ (mkF m 0 #[rv a0, iv 0, iv 3, .unset, .unset] []) t := fun t k => id (by
    show oS p e below s₁ (mkF m 0 #[rv a0, iv 0, iv 3, .unset, .unset] []) _
    refine XS.iloadN X0.here hx rfl (hb hby d24_0) rfl ?_
    refine st1 _ ?_
    refine XS.astoreN X1.here hx rfl (hb hby d24_4) rfl rfl (l' := #[rv a0, iv 0, iv 3, rv b1, .unset]) rfl ?_
    refine XT.iconstV X1.here hx rfl (0 : Int32) (hb hby d24_5) (by decide) ?_
    refine XS.istore X1.here hx rfl (hb hby d24_6) rfl (l' := #[rv a0, iv 0, iv 3, rv b1, iv 0]) rfl ?_
    refine XS.iload X1.here hx rfl (hb hby d24_8) rfl ?_
    refine XS.iloadN X1.here hx rfl (hb hby d24_10) rfl ?_
    refine XS.icmpNo X1.here hx rfl (hb hby d24_11) rfl (XT.ii_ge_f (by decide)) ?_
    refine XS.aloadN X1.here hx rfl (hb hby d24_14) rfl rfl ?_
    refine XS.iload X1.here hx rfl (hb hby d24_15) rfl ?_
    refine XS.aloadN X1.here hx rfl (hb hby d24_17) rfl rfl ?_
    refine XS.iloadN X1.here hx rfl (hb hby d24_18) rfl ?_
    refine X1.caload hx (j := (0 : Int32)) (v := (.int c0)) (by rw [e1]; exact Ar3.1) (State.isArrayOf_alike hZ.alike Ar3.2.1) Ar3.2.2 hin3 hat3 (g := (mkF m 19 #[rv a0, iv 0, iv 3, rv b1, iv 0] [(.int 0), (.ref a0), (.int 0), (.ref b1)])) rfl rfl (hb hby d24_19) _ ?_
    refine st7 _ ?_
    refine XT.iincV X7.here hx rfl (1 : Int32) (hb hby d24_23) (by decide) rfl (l' := #[rv a0, iv 1, iv 3, rv b1, iv 0]) rfl ?_
    show oS p e below T7 (mkF m 26 #[rv a0, iv 1, iv 3, rv b1, iv 0] []) _
    refine XT.iincV X7.here hx rfl (1 : Int32) (hb hby d24_26) (by decide) rfl (l' := #[rv a0, iv 1, iv 3, rv b1, iv 1]) rfl ?_
    refine XS.goto X7.here hx rfl (pc0 := 29) (pc' := 8) rfl (hb hby d24_29) (by decide) (by decide) ?_
    refine XS.iload X7.here hx rfl (hb hby d24_8) rfl ?_
    refine XS.iloadN X7.here hx rfl (hb hby d24_10) rfl ?_
    refine XS.icmpNo X7.here hx rfl (hb hby d24_11) rfl (XT.ii_ge_f (by decide)) ?_
    refine XS.aloadN X7.here hx rfl (hb hby d24_14) rfl rfl ?_
    refine XS.iload X7.here hx rfl (hb hby d24_15) rfl ?_
    refine XS.aloadN X7.here hx rfl (hb hby d24_17) rfl rfl ?_
    refine XS.iloadN X7.here hx rfl (hb hby d24_18) rfl ?_
    refine X7.caload hx (j := (1 : Int32)) (v := (.int c1)) (by rw [e7]; exact Ar9.1) (State.isArrayOf_alike hZ.alike Ar9.2.1) Ar9.2.2 hin9 hat9 (g := (mkF m 19 #[rv a0, iv 1, iv 3, rv b1, iv 1] [(.int 1), (.ref a0), (.int 1), (.ref b1)])) rfl rfl (hb hby d24_19) _ ?_
    refine st13 _ ?_
    refine XT.iincV X13.here hx rfl (1 : Int32) (hb hby d24_23) (by decide) rfl (l' := #[rv a0, iv 2, iv 3, rv b1, iv 1]) rfl ?_
    refine XT.iincV X13.here hx rfl (1 : Int32) (hb hby d24_26) (by decide) rfl (l' := #[rv a0, iv 2, iv 3, rv b1, iv 2]) rfl ?_
    refine XS.goto X13.here hx rfl (pc0 := 29) (pc' := 8) rfl (hb hby d24_29) (by decide) (by decide) ?_
    refine XS.iload X13.here hx rfl (hb hby d24_8) rfl ?_
    show oS p e below T13 (mkF m 10 #[rv a0, iv 2, iv 3, rv b1, iv 2] [(.int 2)]) _
    refine XS.iloadN X13.here hx rfl (hb hby d24_10) rfl ?_
    refine XS.icmpNo X13.here hx rfl (hb hby d24_11) rfl (XT.ii_ge_f (by decide)) ?_
    refine XS.aloadN X13.here hx rfl (hb hby d24_14) rfl rfl ?_
    refine XS.iload X13.here hx rfl (hb hby d24_15) rfl ?_
    refine XS.aloadN X13.here hx rfl (hb hby d24_17) rfl rfl ?_
    refine XS.iloadN X13.here hx rfl (hb hby d24_18) rfl ?_
    refine X13.caload hx (j := (2 : Int32)) (v := (.int c2)) (by rw [e13]; exact Ar15.1) (State.isArrayOf_alike hZ.alike Ar15.2.1) Ar15.2.2 hin15 hat15 (g := (mkF m 19 #[rv a0, iv 2, iv 3, rv b1, iv 2] [(.int 2), (.ref a0), (.int 2), (.ref b1)])) rfl rfl (hb hby d24_19) _ ?_
    refine st19 _ ?_
    refine XT.iincV X19.here hx rfl (1 : Int32) (hb hby d24_23) (by decide) rfl (l' := #[rv a0, iv 3, iv 3, rv b1, iv 2]) rfl ?_
    refine XT.iincV X19.here hx rfl (1 : Int32) (hb hby d24_26) (by decide) rfl (l' := #[rv a0, iv 3, iv 3, rv b1, iv 3]) rfl ?_
    refine XS.goto X19.here hx rfl (pc0 := 29) (pc' := 8) rfl (hb hby d24_29) (by decide) (by decide) ?_
    refine XS.iload X19.here hx rfl (hb hby d24_8) rfl ?_
    refine XS.iloadN X19.here hx rfl (hb hby d24_10) rfl ?_
    refine XS.icmpYes X19.here hx rfl (pc0 := 11) (pc' := 32) rfl (hb hby d24_11) rfl (XT.ii_ge_t (by decide)) (by decide) (by decide) ?_
    refine XS.aloadN X19.here hx rfl (hb hby d24_32) rfl rfl ?_
    show oS p e below T19 (mkF m 33 #[rv a0, iv 3, iv 3, rv b1, iv 3] [(.ref b1)]) _
    exact k)
  obtain ⟨fs, hr, hrun, hended, hW, hsame⟩ := X19.leave (v := some (.ref b1)) (fun h => by rw [Bd.returns] at h; cases h)
  refine ⟨_, _, pre0 _ (S20 _ ?_), hrun, hended, _, _, rfl, ?_, ⟨_, rfl⟩, hW, hsame.mono (by decide) (by decide)⟩
  · jvm_step X19.here [X19.here.top, hx, (hb hby d24_33), X19.method', Bd.returns, Value.isRef, FieldType.isReference]
    first | (intro acts; rw [hr _ acts rfl rfl rfl]) | rw [hr _ _ rfl rfl rfl]
    exact Steps.refl _
  · show QrmTb_3 Z a0 ka c0 c1 c2 h0 n0 _ T19.heap _
    rw [e19]
    exact ⟨_, _, rfl, N19, sz_b1, Kk19, V19⟩
def QrmCp3_3_0 (Z : State) (a0 : Addr) (ka : ClassId) (c0 : Int32) (c1 : Int32) (c2 : Int32) (h0 : Heap) (n0 : Nat) (v : Option Value) (h : Heap) (L : List Loc) : Prop := ∃ (b : Addr) (k : ClassId), v = some (.ref b) ∧ Fr n0 L ∧ h0.size ≤ b ∧ Keep h0 h [] ∧ Arv Z h b k .byte (6 : Int32) [(.int (own_lo c0)), (.int (own_hi c0)), (.int (own_lo c1)), (.int (own_hi c1)), (.int (own_lo c2)), (.int (own_hi c2))] (.int (0 : Int32))
set_option maxRecDepth 65536 in
set_option maxHeartbeats 40000000 in
theorem rmCp3_3_0 (l : Launch) (Z : State) (av0 : Array Value) (hw : ∀ d ∈ tables_1, d.before av0 Z = true) (ws : List Jvm.Cond) (a0 : Addr) (ka : ClassId) (c0 : Int32) (c1 : Int32) (c2 : Int32) (h0 : Heap) (n0 : Nat) (Z0 : n0 ≤ h0.size) (hA : Arv Z h0 a0 ka .char (3 : Int32) [(.int c0), (.int c1), (.int c2)] (.int (0 : Int32))) (hbg : (255 : Int32) < c0) (hg : 0 ≤ c0.toInt ∧ c0.toInt < 65536) (sA : Sta Z h0 "java/lang/StringUTF16" "$assertionsDisabled" "Z" (.int (1 : Int32))) (sH : Sta Z h0 "java/lang/StringUTF16" "HI_BYTE_SHIFT" "I" (.int (0 : Int32))) (sL : Sta Z h0 "java/lang/StringUTF16" "LO_BYTE_SHIFT" "I" (.int (8 : Int32))) :
    own_Met l mN27 jdk_52_method_16_code 6 (some (.array .byte)) ws ({ frames := 3, cells := 2, slots := 9, locals := 40 } : Room) #[(.ref a0), (.int 0), (.int 3)] Z h0 (QrmCp3_3_0 Z a0 ka c0 c1 c2 h0 n0) := by
  refine MetFree.of_bodySF (plainFor_of_name pn_StringUTF16) hisR ?_
  intro p e s m args below meth c s₁ Bd hml0 hP hK
  obtain ⟨rfl, hZ, hh⟩ := hP
  have hml : c.maxLocals = 6 := hml0
  obtain ⟨hx, hby, hown, hnm, X0, e0⟩ := own_start Bd hml0 hh
  have N0 := Fr.nil n0
  have pre0 : ∀ t, oS p e below s₁ (mkF m 0 #[rv a0, iv 0, iv 3, .unset, .unset, .unset] []) t → Steps p.tables e below (s₁.setTop (entryFrame m #[(.ref a0), (.int 0), (.int 3)] 6)) t := fun t k => castTop (by first | (simp [entryFrame, mkF, argsToLocals, Value.category]; done) | rfl) k
  obtain ⟨T1, h1, k1, X1, e1, E1, A1, st1⟩ := newP X0 hx hZ (hw _ (own_w 15 rfl)) e0 (g := (mkF m 1 #[rv a0, iv 0, iv 3, .unset, .unset, .unset] [(.int 3)])) rfl (hb hby d8_1) rfl (by decide) (cap := 3) (by decide) (by decide) (by decide) (by decide)
  obtain ⟨b1, g1⟩ : ∃ z, z = h0.size := ⟨_, rfl⟩
  rw [← g1] at A1 st1
  have ne_a0_b1 : a0 ≠ b1 := Nat.ne_of_lt (Nat.lt_of_lt_of_le hA.lt (Nat.le_of_eq g1.symm))
  have ge_b1 : n0 ≤ b1 := Nat.le_trans Z0 (Nat.le_of_eq g1.symm)
  have sz_b1 : h0.size ≤ b1 := Nat.le_of_eq g1.symm
  have Z1 : n0 ≤ h1.size := Nat.le_trans Z0 E1.1
  have K1 : Keep h0 h1 [] := (Keep.refl h0 []).ext E1
  have V1 : Arv Z h1 b1 k1 .byte (3 : Int32) [(.int (0 : Int32)), (.int (0 : Int32)), (.int (0 : Int32))] (.int (0 : Int32)) := (Arv.new A1 (by decide)).pad (pad_rep [] (.int (0 : Int32)) 3)
  have f2 := (hA.ext E1)
  obtain ⟨_, T3, Lc3, X3, hQ3, st3⟩ := own_callS (W := 0) (y := mN23) X1 hx hZ hown (hw _ (own_w 41 rfl)) (hw _ (own_w 42 rfl)) (hw _ (own_w 39 rfl)) (hw _ (own_w 43 rfl)) (by decide) (rmCp5_3_0 l Z av0 hw [] a0 b1 ka k1 c0 c1 c2 h1 n0 Z1 f2 V1 ne_a0_b1 ge_b1 hbg) (by decide) (by decide) (g := (mkF m 9 #[rv a0, iv 0, iv 3, rv b1, .unset, .unset] [(.int 3), (.int 0), (.ref b1), (.int 0), (.ref a0)])) rfl (by rw [hml]; rfl) (argsL := [(.ref a0), (.int 0), (.ref b1), (.int 0), (.int 3)]) (rest := []) (lenOf pd__CI_BII_I rfl) rfl (hb hby d8_9) rfl e1 (by decide : 1 + 0 ≤ _) (by decide : 3 + 0 ≤ _)
  obtain ⟨rfl, N3q, K3, V3⟩ := hQ3
  have N3 := Fr.app N0 N3q
  have e3 : T3.heap = T3.heap := rfl
  have Zk3 : n0 ≤ T3.heap.size := Nat.le_trans Z1 K3.1
  have Kk3 : Keep h0 T3.heap [] := K1.trans K3 (allS (Or.inr sz_b1) all0)
  have f4 := (f2.keep K3 (ninS ne_a0_b1 nin0))
  have f5 := (own_stak (sA.ext E1) K3 (allS (own_arns V1) all0))
  have f6 := (own_stak (sH.ext E1) K3 (allS (own_arns V1) all0))
  have f7 := (own_stak (sL.ext E1) K3 (allS (own_arns V1) all0))
  obtain ⟨_, T8, Lc8, X8, hQ8, st8⟩ := own_callS (W := 0) (y := mN26) X3 hx hZ hown (hw _ (own_w 102 rfl)) (hw _ (own_w 103 rfl)) (hw _ (own_w 39 rfl)) (hw _ (own_w 104 rfl)) (by decide) (rmTb_3 l Z av0 hw [] a0 ka c0 c1 c2 T3.heap n0 Zk3 f4 f5 f6 f7) (by decide) (by decide) (g := (mkF m 23 #[rv a0, iv 0, iv 3, rv b1, iv 0, .unset] [(.int 3), (.int 0), (.ref a0)])) rfl (by rw [hml]; rfl) (argsL := [(.ref a0), (.int 0), (.int 3)]) (rest := []) (lenOf pd__CII_B rfl) rfl (hb hby d8_23) rfl e3 (by decide : 1 + 1 ≤ _) (by decide : 3 + 6 ≤ _)
  obtain ⟨b8, kb8, rfl, N8q, gb8, K8, V8⟩ := hQ8
  have N8 := Fr.app N3 N8q
  have e8 : T8.heap = T8.heap := rfl
  have ne_a0_b8 : a0 ≠ b8 := Nat.ne_of_lt (Nat.lt_of_lt_of_le f4.lt gb8)
  have ne_b1_b8 : b1 ≠ b8 := Nat.ne_of_lt (Nat.lt_of_lt_of_le V3.lt gb8)
  have ge_b8 : n0 ≤ b8 := Nat.le_trans Zk3 gb8
  have sz_b8 : h0.size ≤ b8 := Nat.le_trans Kk3.1 gb8
  have Zk8 : n0 ≤ T8.heap.size := Nat.le_trans Zk3 K8.1
  have Kk8 : Keep h0 T8.heap [] := Kk3.trans K8 all0
  have f9 := (own_stak f5 K8 all0)
  have f10 := (own_stak f6 K8 all0)
  have f11 := (own_stak f7 K8 all0)
  obtain ⟨_, T12, Lc12, X12, hQ12, st12⟩ := own_callS (W := 0) (y := mN13) X8 hx hZ hown (hw _ (own_w 112 rfl)) (hw _ (own_w 113 rfl)) (hw _ (own_w 39 rfl)) (hw _ (own_w 114 rfl)) (by decide) (rmGc l Z av0 hw [] b8 kb8 (6 : Int32) [(.int (own_lo c0)), (.int (own_hi c0)), (.int (own_lo c1)), (.int (own_hi c1)), (.int (own_lo c2)), (.int (own_hi c2))] (0 : Int32) (own_lo c0) (own_hi c0) T8.heap n0 Zk8 V8 f9 f10 f11 (by decide) (by decide) rfl rfl) (by decide) (by decide) (g := (mkF m 32 #[rv a0, iv 0, iv 3, rv b1, iv 0, rv b8] [(.int 0), (.ref b8)])) rfl (by rw [hml]; rfl) (argsL := [(.ref b8), (.int 0)]) (rest := []) (lenOf pd__BI_C rfl) rfl (hb hby d8_32) rfl e8 (by decide : 2 + 0 ≤ _) (by decide : 9 + 0 ≤ _)
  obtain ⟨rfl, N12q, hh12⟩ := hQ12
  have N12 := Fr.app N8 N12q
  have e12 : T12.heap = T8.heap := hh12
  have S13 : ∀ t, oS p e below T12 (mkF m 56 #[rv a0, iv 0, iv 3, rv b1, iv 0, rv b8] [(.ref b8)]) t → oS p e below s₁ (mkF m 0 #[rv a0, iv 0, iv 3, .unset, .unset, .unset] []) t := fun t k => id (by
    show oS p e below s₁ (mkF m 0 #[rv a0, iv 0, iv 3, .unset, .unset, .unset] []) _
    refine XS.iloadN X0.here hx rfl (hb hby d8_0) rfl ?_
    refine st1 _ ?_
    refine XS.astoreN X1.here hx rfl (hb hby d8_3) rfl rfl (l' := #[rv a0, iv 0, iv 3, rv b1, .unset, .unset]) rfl ?_
    refine XS.aloadN X1.here hx rfl (hb hby d8_4) rfl rfl ?_
    refine XS.iloadN X1.here hx rfl (hb hby d8_5) rfl ?_
    refine XS.aloadN X1.here hx rfl (hb hby d8_6) rfl rfl ?_
    refine XT.iconstV X1.here hx rfl (0 : Int32) (hb hby d8_7) (by decide) ?_
    refine XS.iloadN X1.here hx rfl (hb hby d8_8) rfl ?_
    refine st3 _ ?_
    refine XS.istore X3.here hx rfl (hb hby d8_12) rfl (l' := #[rv a0, iv 0, iv 3, rv b1, iv 0, .unset]) rfl ?_
    refine XS.iload X3.here hx rfl (hb hby d8_14) rfl ?_
    refine XS.iloadN X3.here hx rfl (hb hby d8_16) rfl ?_
    refine XS.icmpNo X3.here hx rfl (hb hby d8_17) rfl (XT.ii_eq_f (by decide)) ?_
    refine XS.aloadN X3.here hx rfl (hb hby d8_20) rfl rfl ?_
    refine XS.iloadN X3.here hx rfl (hb hby d8_21) rfl ?_
    show oS p e below T3 (mkF m 22 #[rv a0, iv 0, iv 3, rv b1, iv 0, .unset] [(.int 0), (.ref a0)]) _
    refine XS.iloadN X3.here hx rfl (hb hby d8_22) rfl ?_
    refine st8 _ ?_
    refine XS.astore X8.here hx rfl (hb hby d8_26) rfl rfl (l' := #[rv a0, iv 0, iv 3, rv b1, iv 0, rv b8]) rfl ?_
    refine XS.aload X8.here hx rfl (hb hby d8_28) rfl rfl ?_
    refine XS.iload X8.here hx rfl (hb hby d8_30) rfl ?_
    refine st12 _ ?_
    refine XT.sipushV X12.here hx rfl (255 : Int32) (hb hby d8_35) (by decide) ?_
    refine XS.icmpYes X12.here hx rfl (pc0 := 38) (pc' := 54) rfl (hb hby d8_38) rfl (XT.ii_gt_t (by rw [own_gcv c0 hg.1 hg.2]; exact hbg)) (by decide) (by decide) ?_
    refine XS.aload X12.here hx rfl (hb hby d8_54) rfl rfl ?_
    exact k)
  obtain ⟨fs, hr, hrun, hended, hW, hsame⟩ := X12.leave (v := some (.ref b8)) (fun h => by rw [Bd.returns] at h; cases h)
  refine ⟨_, _, pre0 _ (S13 _ ?_), hrun, hended, _, _, rfl, ?_, ⟨_, rfl⟩, hW, hsame.mono (by decide) (by decide)⟩
  · jvm_step X12.here [X12.here.top, hx, (hb hby d8_56), X12.method', Bd.returns, Value.isRef, FieldType.isReference]
    first | (intro acts; rw [hr _ acts rfl rfl rfl]) | rw [hr _ _ rfl rfl rfl]
    exact Steps.refl _
  · show QrmCp3_3_0 Z a0 ka c0 c1 c2 h0 n0 _ T12.heap _
    rw [e12]
    exact ⟨_, _, rfl, N12, sz_b8, Kk8, V8⟩
def QrmCp5_3_1 (Z : State) (a0 : Addr) (a2 : Addr) (ka : ClassId) (kb : ClassId) (c0 : Int32) (c1 : Int32) (c2 : Int32) (h0 : Heap) (n0 : Nat) (v : Option Value) (h : Heap) (L : List Loc) : Prop := v = some (.int (1 : Int32)) ∧ Fr n0 L ∧ Keep h0 h [a2] ∧ Arv Z h a2 kb .byte (3 : Int32) [(.int (own_b c0)), (.int (0 : Int32)), (.int (0 : Int32))] (.int (0 : Int32))
set_option maxRecDepth 65536 in
set_option maxHeartbeats 40000000 in
theorem rmCp5_3_1 (l : Launch) (Z : State) (av0 : Array Value) (hw : ∀ d ∈ tables_1, d.before av0 Z = true) (ws : List Jvm.Cond) (a0 : Addr) (a2 : Addr) (ka : ClassId) (kb : ClassId) (c0 : Int32) (c1 : Int32) (c2 : Int32) (h0 : Heap) (n0 : Nat) (Z0 : n0 ≤ h0.size) (hA : Arv Z h0 a0 ka .char (3 : Int32) [(.int c0), (.int c1), (.int c2)] (.int (0 : Int32))) (hB : Arv Z h0 a2 kb .byte (3 : Int32) [(.int (0 : Int32)), (.int (0 : Int32)), (.int (0 : Int32))] (.int (0 : Int32))) (hne : a0 ≠ a2) (hge : n0 ≤ a2) (hc0 : ¬ (255 : Int32) < c0) (hbg : (255 : Int32) < c1) :
    own_Met l mN23 jdk_52_method_21_code 7 (some .int) ws ({ frames := 0, cells := 0, slots := 0, locals := 0 } : Room) #[(.ref a0), (.int 0), (.ref a2), (.int 0), (.int 3)] Z h0 (QrmCp5_3_1 Z a0 a2 ka kb c0 c1 c2 h0 n0) := by
  refine MetFree.of_bodySF (plainFor_of_name pn_StringUTF16) hisR ?_
  intro p e s m args below meth c s₁ Bd hml0 hP hK
  obtain ⟨rfl, hZ, hh⟩ := hP
  have hml : c.maxLocals = 7 := hml0
  obtain ⟨hx, hby, hown, hnm, X0, e0⟩ := own_start Bd hml0 hh
  have N0 := Fr.nil n0
  have pre0 : ∀ t, oS p e below s₁ (mkF m 0 #[rv a0, iv 0, rv a2, iv 0, iv 3, .unset, .unset] []) t → Steps p.tables e below (s₁.setTop (entryFrame m #[(.ref a0), (.int 0), (.ref a2), (.int 0), (.int 3)] 7)) t := fun t k => castTop (by first | (simp [entryFrame, mkF, argsToLocals, Value.category]; done) | rfl) k
  obtain ⟨cl1, Ar1, qk1, Sz1, Ng1, Hs1, Gs1⟩ := id hA
  have hin1 : ¬ ((0 : Int32) < 0 ∨ cl1.slots.size ≤ ((0 : Int32)).toNatClampNeg) := inb_of Sz1 ⟨by decide, by decide⟩
  have hat1 : cl1.slots[((0 : Int32)).toNatClampNeg]? = some (.int c0) := Hs1.at hin1 rfl
  obtain ⟨cl2, Ar2, qk2, Sz2, Ng2, Hs2, Gs2⟩ := id hB
  have hin2 : ¬ ((0 : Int32) < 0 ∨ cl2.slots.size ≤ ((0 : Int32)).toNatClampNeg) := inb_of Sz2 ⟨by decide, by decide⟩
  obtain ⟨T3, h3, X3, e3, W3, st3⟩ := stB X0 hx hZ e0 Ar2 (j := (0 : Int32)) hin2 (g := (mkF m 31 #[rv a0, iv 0, rv a2, iv 0, iv 3, iv 0, iv c0] [(.int (c0).toInt8.toInt32), (.int 0), (.ref a2)])) rfl rfl (hb hby d9_31)
  have N3 := Fr.snoc X3 N0 hge
  have Z3 : n0 ≤ h3.size := Nat.le_trans Z0 (Nat.le_of_eq W3.size.symm)
  have K3 : Keep h0 h3 [a2] := (Keep.refl h0 [a2]).wr W3 (Or.inl (List.mem_of_getElem? (i := 0) rfl))
  have V3 : Arv Z h3 a2 kb .byte (3 : Int32) [(.int (nar .byte (c0).toInt8.toInt32)), (.int (0 : Int32)), (.int (0 : Int32))] (.int (0 : Int32)) := Arv.set Ar2 qk2 Sz2 Ng2 Hs2 Gs2 (fits_nar_byte _) W3 0 rfl (Nat.le_of_ble_eq_true rfl)
  have f4 := (hA.other W3 hne)
  obtain ⟨cl5, Ar5, qk5, Sz5, Ng5, Hs5, Gs5⟩ := id f4
  have hin5 : ¬ ((1 : Int32) < 0 ∨ cl5.slots.size ≤ ((1 : Int32)).toNatClampNeg) := inb_of Sz5 ⟨by decide, by decide⟩
  have hat5 : cl5.slots[((1 : Int32)).toNatClampNeg]? = some (.int c1) := Hs5.at hin5 rfl
  have S6 : ∀ t, oS p e below T3 (mkF m 25 #[rv a0, iv 1, rv a2, iv 1, iv 3, iv 1, iv c1] [(.int 1)]) t → oS p e below s₁ (mkF m 0 #[rv a0, iv 0, rv a2, iv 0, iv 3, .unset, .unset] []) t := fun t k => id (by
    show oS p e below s₁ (mkF m 0 #[rv a0, iv 0, rv a2, iv 0, iv 3, .unset, .unset] []) _
    refine XT.iconstV X0.here hx rfl (0 : Int32) (hb hby d9_0) (by decide) ?_
    refine XS.istore X0.here hx rfl (hb hby d9_1) rfl (l' := #[rv a0, iv 0, rv a2, iv 0, iv 3, iv 0, .unset]) rfl ?_
    refine XS.iload X0.here hx rfl (hb hby d9_3) rfl ?_
    refine XS.iload X0.here hx rfl (hb hby d9_5) rfl ?_
    refine XS.icmpNo X0.here hx rfl (hb hby d9_7) rfl (XT.ii_ge_f (by decide)) ?_
    refine XS.aloadN X0.here hx rfl (hb hby d9_10) rfl rfl ?_
    refine XS.iloadN X0.here hx rfl (hb hby d9_11) rfl ?_
    refine X0.caload hx (j := (0 : Int32)) (v := (.int c0)) (by rw [e0]; exact Ar1.1) (State.isArrayOf_alike hZ.alike Ar1.2.1) Ar1.2.2 hin1 hat1 (g := (mkF m 12 #[rv a0, iv 0, rv a2, iv 0, iv 3, iv 0, .unset] [(.int 0), (.ref a0)])) rfl rfl (hb hby d9_12) _ ?_
    refine XS.istore X0.here hx rfl (hb hby d9_13) rfl (l' := #[rv a0, iv 0, rv a2, iv 0, iv 3, iv 0, iv c0]) rfl ?_
    refine XS.iload X0.here hx rfl (hb hby d9_15) rfl ?_
    refine XT.sipushV X0.here hx rfl (255 : Int32) (hb hby d9_17) (by decide) ?_
    refine XS.icmpYes X0.here hx rfl (pc0 := 20) (pc' := 26) rfl (hb hby d9_20) rfl (XT.ii_le_t hc0) (by decide) (by decide) ?_
    refine XS.aloadN X0.here hx rfl (hb hby d9_26) rfl rfl ?_
    refine XS.iloadN X0.here hx rfl (hb hby d9_27) rfl ?_
    refine XS.iload X0.here hx rfl (hb hby d9_28) rfl ?_
    show oS p e below s₁ (mkF m 30 #[rv a0, iv 0, rv a2, iv 0, iv 3, iv 0, iv c0] [(.int c0), (.int 0), (.ref a2)]) _
    refine XT.i2b X0.here hx rfl (hb hby d9_30) rfl ?_
    refine st3 _ ?_
    refine XT.iincV X3.here hx rfl (1 : Int32) (hb hby d9_32) (by decide) rfl (l' := #[rv a0, iv 1, rv a2, iv 0, iv 3, iv 0, iv c0]) rfl ?_
    refine XT.iincV X3.here hx rfl (1 : Int32) (hb hby d9_35) (by decide) rfl (l' := #[rv a0, iv 1, rv a2, iv 1, iv 3, iv 0, iv c0]) rfl ?_
    refine XT.iincV X3.here hx rfl (1 : Int32) (hb hby d9_38) (by decide) rfl (l' := #[rv a0, iv 1, rv a2, iv 1, iv 3, iv 1, iv c0]) rfl ?_
    refine XS.goto X3.here hx rfl (pc0 := 41) (pc' := 3) rfl (hb hby d9_41) (by decide) (by decide) ?_
    refine XS.iload X3.here hx rfl (hb hby d9_3) rfl ?_
    refine XS.iload X3.here hx rfl (hb hby d9_5) rfl ?_
    refine XS.icmpNo X3.here hx rfl (hb hby d9_7) rfl (XT.ii_ge_f (by decide)) ?_
    refine XS.aloadN X3.here hx rfl (hb hby d9_10) rfl rfl ?_
    refine XS.iloadN X3.here hx rfl (hb hby d9_11) rfl ?_
    refine X3.caload hx (j := (1 : Int32)) (v := (.int c1)) (by rw [e3]; exact Ar5.1) (State.isArrayOf_alike hZ.alike Ar5.2.1) Ar5.2.2 hin5 hat5 (g := (mkF m 12 #[rv a0, iv 1, rv a2, iv 1, iv 3, iv 1, iv c0] [(.int 1), (.ref a0)])) rfl rfl (hb hby d9_12) _ ?_
    refine XS.istore X3.here hx rfl (hb hby d9_13) rfl (l' := #[rv a0, iv 1, rv a2, iv 1, iv 3, iv 1, iv c1]) rfl ?_
    refine XS.iload X3.here hx rfl (hb hby d9_15) rfl ?_
    refine XT.sipushV X3.here hx rfl (255 : Int32) (hb hby d9_17) (by decide) ?_
    show oS p e below T3 (mkF m 20 #[rv a0, iv 1, rv a2, iv 1, iv 3, iv 1, iv c1] [(.int 255), (.int c1)]) _
    refine XS.icmpNo X3.here hx rfl (hb hby d9_20) rfl (XT.ii_le_f hbg) ?_
    refine XS.iload X3.here hx rfl (hb hby d9_23) rfl ?_
    exact k)
  obtain ⟨fs, hr, hrun, hended, hW, hsame⟩ := X3.leave (v := some (.int 1)) (fun h => by rw [Bd.returns] at h; cases h)
  refine ⟨_, _, pre0 _ (S6 _ ?_), hrun, hended, _, _, rfl, ?_, ⟨_, rfl⟩, hW, hsame.mono (by decide) (by decide)⟩
  · exact retI X3 hx Bd.returns (hb hby d9_25) hr
  · show QrmCp5_3_1 Z a0 a2 ka kb c0 c1 c2 h0 n0 _ T3.heap _
    rw [e3]
    exact ⟨congrArg (fun z => some (Value.int z)) (by decide), N3, K3, V3⟩
def QrmCp3_3_1 (Z : State) (a0 : Addr) (ka : ClassId) (c0 : Int32) (c1 : Int32) (c2 : Int32) (h0 : Heap) (n0 : Nat) (v : Option Value) (h : Heap) (L : List Loc) : Prop := ∃ (b : Addr) (k : ClassId), v = some (.ref b) ∧ Fr n0 L ∧ h0.size ≤ b ∧ Keep h0 h [] ∧ Arv Z h b k .byte (6 : Int32) [(.int (own_lo c0)), (.int (own_hi c0)), (.int (own_lo c1)), (.int (own_hi c1)), (.int (own_lo c2)), (.int (own_hi c2))] (.int (0 : Int32))
set_option maxRecDepth 65536 in
set_option maxHeartbeats 40000000 in
theorem rmCp3_3_1 (l : Launch) (Z : State) (av0 : Array Value) (hw : ∀ d ∈ tables_1, d.before av0 Z = true) (ws : List Jvm.Cond) (a0 : Addr) (ka : ClassId) (c0 : Int32) (c1 : Int32) (c2 : Int32) (h0 : Heap) (n0 : Nat) (Z0 : n0 ≤ h0.size) (hA : Arv Z h0 a0 ka .char (3 : Int32) [(.int c0), (.int c1), (.int c2)] (.int (0 : Int32))) (hc0 : ¬ (255 : Int32) < c0) (hbg : (255 : Int32) < c1) (hg : 0 ≤ c1.toInt ∧ c1.toInt < 65536) (sA : Sta Z h0 "java/lang/StringUTF16" "$assertionsDisabled" "Z" (.int (1 : Int32))) (sH : Sta Z h0 "java/lang/StringUTF16" "HI_BYTE_SHIFT" "I" (.int (0 : Int32))) (sL : Sta Z h0 "java/lang/StringUTF16" "LO_BYTE_SHIFT" "I" (.int (8 : Int32))) :
    own_Met l mN27 jdk_52_method_16_code 6 (some (.array .byte)) ws ({ frames := 3, cells := 2, slots := 9, locals := 40 } : Room) #[(.ref a0), (.int 0), (.int 3)] Z h0 (QrmCp3_3_1 Z a0 ka c0 c1 c2 h0 n0) := by
  refine MetFree.of_bodySF (plainFor_of_name pn_StringUTF16) hisR ?_
  intro p e s m args below meth c s₁ Bd hml0 hP hK
  obtain ⟨rfl, hZ, hh⟩ := hP
  have hml : c.maxLocals = 6 := hml0
  obtain ⟨hx, hby, hown, hnm, X0, e0⟩ := own_start Bd hml0 hh
  have N0 := Fr.nil n0
  have pre0 : ∀ t, oS p e below s₁ (mkF m 0 #[rv a0, iv 0, iv 3, .unset, .unset, .unset] []) t → Steps p.tables e below (s₁.setTop (entryFrame m #[(.ref a0), (.int 0), (.int 3)] 6)) t := fun t k => castTop (by first | (simp [entryFrame, mkF, argsToLocals, Value.category]; done) | rfl) k
  obtain ⟨T1, h1, k1, X1, e1, E1, A1, st1⟩ := newP X0 hx hZ (hw _ (own_w 15 rfl)) e0 (g := (mkF m 1 #[rv a0, iv 0, iv 3, .unset, .unset, .unset] [(.int 3)])) rfl (hb hby d8_1) rfl (by decide) (cap := 3) (by decide) (by decide) (by decide) (by decide)
  obtain ⟨b1, g1⟩ : ∃ z, z = h0.size := ⟨_, rfl⟩
  rw [← g1] at A1 st1
  have ne_a0_b1 : a0 ≠ b1 := Nat.ne_of_lt (Nat.lt_of_lt_of_le hA.lt (Nat.le_of_eq g1.symm))
  have ge_b1 : n0 ≤ b1 := Nat.le_trans Z0 (Nat.le_of_eq g1.symm)
  have sz_b1 : h0.size ≤ b1 := Nat.le_of_eq g1.symm
  have Z1 : n0 ≤ h1.size := Nat.le_trans Z0 E1.1
  have K1 : Keep h0 h1 [] := (Keep.refl h0 []).ext E1
  have V1 : Arv Z h1 b1 k1 .byte (3 : Int32) [(.int (0 : Int32)), (.int (0 : Int32)), (.int (0 : Int32))] (.int (0 : Int32)) := (Arv.new A1 (by decide)).pad (pad_rep [] (.int (0 : Int32)) 3)
  have f2 := (hA.ext E1)
  obtain ⟨_, T3, Lc3, X3, hQ3, st3⟩ := own_callS (W := 0) (y := mN23) X1 hx hZ hown (hw _ (own_w 41 rfl)) (hw _ (own_w 42 rfl)) (hw _ (own_w 39 rfl)) (hw _ (own_w 43 rfl)) (by decide) (rmCp5_3_1 l Z av0 hw [] a0 b1 ka k1 c0 c1 c2 h1 n0 Z1 f2 V1 ne_a0_b1 ge_b1 hc0 hbg) (by decide) (by decide) (g := (mkF m 9 #[rv a0, iv 0, iv 3, rv b1, .unset, .unset] [(.int 3), (.int 0), (.ref b1), (.int 0), (.ref a0)])) rfl (by rw [hml]; rfl) (argsL := [(.ref a0), (.int 0), (.ref b1), (.int 0), (.int 3)]) (rest := []) (lenOf pd__CI_BII_I rfl) rfl (hb hby d8_9) rfl e1 (by decide : 1 + 0 ≤ _) (by decide : 3 + 0 ≤ _)
  obtain ⟨rfl, N3q, K3, V3⟩ := hQ3
  have N3 := Fr.app N0 N3q
  have e3 : T3.heap = T3.heap := rfl
  have Zk3 : n0 ≤ T3.heap.size := Nat.le_trans Z1 K3.1
  have Kk3 : Keep h0 T3.heap [] := K1.trans K3 (allS (Or.inr sz_b1) all0)
  have f4 := (f2.keep K3 (ninS ne_a0_b1 nin0))
  have f5 := (own_stak (sA.ext E1) K3 (allS (own_arns V1) all0))
  have f6 := (own_stak (sH.ext E1) K3 (allS (own_arns V1) all0))
  have f7 := (own_stak (sL.ext E1) K3 (allS (own_arns V1) all0))
  obtain ⟨_, T8, Lc8, X8, hQ8, st8⟩ := own_callS (W := 0) (y := mN26) X3 hx hZ hown (hw _ (own_w 102 rfl)) (hw _ (own_w 103 rfl)) (hw _ (own_w 39 rfl)) (hw _ (own_w 104 rfl)) (by decide) (rmTb_3 l Z av0 hw [] a0 ka c0 c1 c2 T3.heap n0 Zk3 f4 f5 f6 f7) (by decide) (by decide) (g := (mkF m 23 #[rv a0, iv 0, iv 3, rv b1, iv 1, .unset] [(.int 3), (.int 0), (.ref a0)])) rfl (by rw [hml]; rfl) (argsL := [(.ref a0), (.int 0), (.int 3)]) (rest := []) (lenOf pd__CII_B rfl) rfl (hb hby d8_23) rfl e3 (by decide : 1 + 1 ≤ _) (by decide : 3 + 6 ≤ _)
  obtain ⟨b8, kb8, rfl, N8q, gb8, K8, V8⟩ := hQ8
  have N8 := Fr.app N3 N8q
  have e8 : T8.heap = T8.heap := rfl
  have ne_a0_b8 : a0 ≠ b8 := Nat.ne_of_lt (Nat.lt_of_lt_of_le f4.lt gb8)
  have ne_b1_b8 : b1 ≠ b8 := Nat.ne_of_lt (Nat.lt_of_lt_of_le V3.lt gb8)
  have ge_b8 : n0 ≤ b8 := Nat.le_trans Zk3 gb8
  have sz_b8 : h0.size ≤ b8 := Nat.le_trans Kk3.1 gb8
  have Zk8 : n0 ≤ T8.heap.size := Nat.le_trans Zk3 K8.1
  have Kk8 : Keep h0 T8.heap [] := Kk3.trans K8 all0
  have f9 := (own_stak f5 K8 all0)
  have f10 := (own_stak f6 K8 all0)
  have f11 := (own_stak f7 K8 all0)
  obtain ⟨_, T12, Lc12, X12, hQ12, st12⟩ := own_callS (W := 0) (y := mN13) X8 hx hZ hown (hw _ (own_w 112 rfl)) (hw _ (own_w 113 rfl)) (hw _ (own_w 39 rfl)) (hw _ (own_w 114 rfl)) (by decide) (rmGc l Z av0 hw [] b8 kb8 (6 : Int32) [(.int (own_lo c0)), (.int (own_hi c0)), (.int (own_lo c1)), (.int (own_hi c1)), (.int (own_lo c2)), (.int (own_hi c2))] (1 : Int32) (own_lo c1) (own_hi c1) T8.heap n0 Zk8 V8 f9 f10 f11 (by decide) (by decide) rfl rfl) (by decide) (by decide) (g := (mkF m 32 #[rv a0, iv 0, iv 3, rv b1, iv 1, rv b8] [(.int 1), (.ref b8)])) rfl (by rw [hml]; rfl) (argsL := [(.ref b8), (.int 1)]) (rest := []) (lenOf pd__BI_C rfl) rfl (hb hby d8_32) rfl e8 (by decide : 2 + 0 ≤ _) (by decide : 9 + 0 ≤ _)
  obtain ⟨rfl, N12q, hh12⟩ := hQ12
  have N12 := Fr.app N8 N12q
  have e12 : T12.heap = T8.heap := hh12
  have S13 : ∀ t, oS p e below T12 (mkF m 56 #[rv a0, iv 0, iv 3, rv b1, iv 1, rv b8] [(.ref b8)]) t → oS p e below s₁ (mkF m 0 #[rv a0, iv 0, iv 3, .unset, .unset, .unset] []) t := fun t k => id (by
    show oS p e below s₁ (mkF m 0 #[rv a0, iv 0, iv 3, .unset, .unset, .unset] []) _
    refine XS.iloadN X0.here hx rfl (hb hby d8_0) rfl ?_
    refine st1 _ ?_
    refine XS.astoreN X1.here hx rfl (hb hby d8_3) rfl rfl (l' := #[rv a0, iv 0, iv 3, rv b1, .unset, .unset]) rfl ?_
    refine XS.aloadN X1.here hx rfl (hb hby d8_4) rfl rfl ?_
    refine XS.iloadN X1.here hx rfl (hb hby d8_5) rfl ?_
    refine XS.aloadN X1.here hx rfl (hb hby d8_6) rfl rfl ?_
    refine XT.iconstV X1.here hx rfl (0 : Int32) (hb hby d8_7) (by decide) ?_
    refine XS.iloadN X1.here hx rfl (hb hby d8_8) rfl ?_
    refine st3 _ ?_
    refine XS.istore X3.here hx rfl (hb hby d8_12) rfl (l' := #[rv a0, iv 0, iv 3, rv b1, iv 1, .unset]) rfl ?_
    refine XS.iload X3.here hx rfl (hb hby d8_14) rfl ?_
    refine XS.iloadN X3.here hx rfl (hb hby d8_16) rfl ?_
    refine XS.icmpNo X3.here hx rfl (hb hby d8_17) rfl (XT.ii_eq_f (by decide)) ?_
    refine XS.aloadN X3.here hx rfl (hb hby d8_20) rfl rfl ?_
    refine XS.iloadN X3.here hx rfl (hb hby d8_21) rfl ?_
    show oS p e below T3 (mkF m 22 #[rv a0, iv 0, iv 3, rv b1, iv 1, .unset] [(.int 0), (.ref a0)]) _
    refine XS.iloadN X3.here hx rfl (hb hby d8_22) rfl ?_
    refine st8 _ ?_
    refine XS.astore X8.here hx rfl (hb hby d8_26) rfl rfl (l' := #[rv a0, iv 0, iv 3, rv b1, iv 1, rv b8]) rfl ?_
    refine XS.aload X8.here hx rfl (hb hby d8_28) rfl rfl ?_
    refine XS.iload X8.here hx rfl (hb hby d8_30) rfl ?_
    refine st12 _ ?_
    refine XT.sipushV X12.here hx rfl (255 : Int32) (hb hby d8_35) (by decide) ?_
    refine XS.icmpYes X12.here hx rfl (pc0 := 38) (pc' := 54) rfl (hb hby d8_38) rfl (XT.ii_gt_t (by rw [own_gcv c1 hg.1 hg.2]; exact hbg)) (by decide) (by decide) ?_
    refine XS.aload X12.here hx rfl (hb hby d8_54) rfl rfl ?_
    exact k)
  obtain ⟨fs, hr, hrun, hended, hW, hsame⟩ := X12.leave (v := some (.ref b8)) (fun h => by rw [Bd.returns] at h; cases h)
  refine ⟨_, _, pre0 _ (S13 _ ?_), hrun, hended, _, _, rfl, ?_, ⟨_, rfl⟩, hW, hsame.mono (by decide) (by decide)⟩
  · jvm_step X12.here [X12.here.top, hx, (hb hby d8_56), X12.method', Bd.returns, Value.isRef, FieldType.isReference]
    first | (intro acts; rw [hr _ acts rfl rfl rfl]) | rw [hr _ _ rfl rfl rfl]
    exact Steps.refl _
  · show QrmCp3_3_1 Z a0 ka c0 c1 c2 h0 n0 _ T12.heap _
    rw [e12]
    exact ⟨_, _, rfl, N12, sz_b8, Kk8, V8⟩
def QrmCp5_3_2 (Z : State) (a0 : Addr) (a2 : Addr) (ka : ClassId) (kb : ClassId) (c0 : Int32) (c1 : Int32) (c2 : Int32) (h0 : Heap) (n0 : Nat) (v : Option Value) (h : Heap) (L : List Loc) : Prop := v = some (.int (2 : Int32)) ∧ Fr n0 L ∧ Keep h0 h [a2] ∧ Arv Z h a2 kb .byte (3 : Int32) [(.int (own_b c0)), (.int (own_b c1)), (.int (0 : Int32))] (.int (0 : Int32))
set_option maxRecDepth 65536 in
set_option maxHeartbeats 40000000 in
theorem rmCp5_3_2 (l : Launch) (Z : State) (av0 : Array Value) (hw : ∀ d ∈ tables_1, d.before av0 Z = true) (ws : List Jvm.Cond) (a0 : Addr) (a2 : Addr) (ka : ClassId) (kb : ClassId) (c0 : Int32) (c1 : Int32) (c2 : Int32) (h0 : Heap) (n0 : Nat) (Z0 : n0 ≤ h0.size) (hA : Arv Z h0 a0 ka .char (3 : Int32) [(.int c0), (.int c1), (.int c2)] (.int (0 : Int32))) (hB : Arv Z h0 a2 kb .byte (3 : Int32) [(.int (0 : Int32)), (.int (0 : Int32)), (.int (0 : Int32))] (.int (0 : Int32))) (hne : a0 ≠ a2) (hge : n0 ≤ a2) (hc0 : ¬ (255 : Int32) < c0) (hc1 : ¬ (255 : Int32) < c1) (hbg : (255 : Int32) < c2) :
    own_Met l mN23 jdk_52_method_21_code 7 (some .int) ws ({ frames := 0, cells := 0, slots := 0, locals := 0 } : Room) #[(.ref a0), (.int 0), (.ref a2), (.int 0), (.int 3)] Z h0 (QrmCp5_3_2 Z a0 a2 ka kb c0 c1 c2 h0 n0) := by
  refine MetFree.of_bodySF (plainFor_of_name pn_StringUTF16) hisR ?_
  intro p e s m args below meth c s₁ Bd hml0 hP hK
  obtain ⟨rfl, hZ, hh⟩ := hP
  have hml : c.maxLocals = 7 := hml0
  obtain ⟨hx, hby, hown, hnm, X0, e0⟩ := own_start Bd hml0 hh
  have N0 := Fr.nil n0
  have pre0 : ∀ t, oS p e below s₁ (mkF m 0 #[rv a0, iv 0, rv a2, iv 0, iv 3, .unset, .unset] []) t → Steps p.tables e below (s₁.setTop (entryFrame m #[(.ref a0), (.int 0), (.ref a2), (.int 0), (.int 3)] 7)) t := fun t k => castTop (by first | (simp [entryFrame, mkF, argsToLocals, Value.category]; done) | rfl) k
  obtain ⟨cl1, Ar1, qk1, Sz1, Ng1, Hs1, Gs1⟩ := id hA
  have hin1 : ¬ ((0 : Int32) < 0 ∨ cl1.slots.size ≤ ((0 : Int32)).toNatClampNeg) := inb_of Sz1 ⟨by decide, by decide⟩
  have hat1 : cl1.slots[((0 : Int32)).toNatClampNeg]? = some (.int c0) := Hs1.at hin1 rfl
  obtain ⟨cl2, Ar2, qk2, Sz2, Ng2, Hs2, Gs2⟩ := id hB
  have hin2 : ¬ ((0 : Int32) < 0 ∨ cl2.slots.size ≤ ((0 : Int32)).toNatClampNeg) := inb_of Sz2 ⟨by decide, by decide⟩
  obtain ⟨T3, h3, X3, e3, W3, st3⟩ := stB X0 hx hZ e0 Ar2 (j := (0 : Int32)) hin2 (g := (mkF m 31 #[rv a0, iv 0, rv a2, iv 0, iv 3, iv 0, iv c0] [(.int (c0).toInt8.toInt32), (.int 0), (.ref a2)])) rfl rfl (hb hby d9_31)
  have N3 := Fr.snoc X3 N0 hge
  have Z3 : n0 ≤ h3.size := Nat.le_trans Z0 (Nat.le_of_eq W3.size.symm)
  have K3 : Keep h0 h3 [a2] := (Keep.refl h0 [a2]).wr W3 (Or.inl (List.mem_of_getElem? (i := 0) rfl))
  have V3 : Arv Z h3 a2 kb .byte (3 : Int32) [(.int (nar .byte (c0).toInt8.toInt32)), (.int (0 : Int32)), (.int (0 : Int32))] (.int (0 : Int32)) := Arv.set Ar2 qk2 Sz2 Ng2 Hs2 Gs2 (fits_nar_byte _) W3 0 rfl (Nat.le_of_ble_eq_true rfl)
  have f4 := (hA.other W3 hne)
  obtain ⟨cl5, Ar5, qk5, Sz5, Ng5, Hs5, Gs5⟩ := id f4
  have hin5 : ¬ ((1 : Int32) < 0 ∨ cl5.slots.size ≤ ((1 : Int32)).toNatClampNeg) := inb_of Sz5 ⟨by decide, by decide⟩
  have hat5 : cl5.slots[((1 : Int32)).toNatClampNeg]? = some (.int c1) := Hs5.at hin5 rfl
  obtain ⟨cl6, Ar6, qk6, Sz6, Ng6, Hs6, Gs6⟩ := id V3
  have hin6 : ¬ ((1 : Int32) < 0 ∨ cl6.slots.size ≤ ((1 : Int32)).toNatClampNeg) := inb_of Sz6 ⟨by decide, by decide⟩
  obtain ⟨T7, h7, X7, e7, W7, st7⟩ := stB X3 hx hZ e3 Ar6 (j := (1 : Int32)) hin6 (g := (mkF m 31 #[rv a0, iv 1, rv a2, iv 1, iv 3, iv 1, iv c1] [(.int (c1).toInt8.toInt32), (.int 1), (.ref a2)])) rfl rfl (hb hby d9_31)
  have N7 := Fr.snoc X7 N3 hge
  have Z7 : n0 ≤ h7.size := Nat.le_trans Z3 (Nat.le_of_eq W7.size.symm)
  have K7 : Keep h0 h7 [a2] := K3.wr W7 (Or.inl (List.mem_of_getElem? (i := 0) rfl))
  have V7 : Arv Z h7 a2 kb .byte (3 : Int32) [(.int (nar .byte (c0).toInt8.toInt32)), (.int (nar .byte (c1).toInt8.toInt32)), (.int (0 : Int32))] (.int (0 : Int32)) := Arv.set Ar6 qk6 Sz6 Ng6 Hs6 Gs6 (fits_nar_byte _) W7 1 rfl (Nat.le_of_ble_eq_true rfl)
  have f8 := (f4.other W7 hne)
  obtain ⟨cl9, Ar9, qk9, Sz9, Ng9, Hs9, Gs9⟩ := id f8
  have hin9 : ¬ ((2 : Int32) < 0 ∨ cl9.slots.size ≤ ((2 : Int32)).toNatClampNeg) := inb_of Sz9 ⟨by decide, by decide⟩
  have hat9 : cl9.slots[((2 : Int32)).toNatClampNeg]? = some (.int c2) := Hs9.at hin9 rfl
  have S10 : ∀ t, oS p e below T7 (mkF m 25 #[rv a0, iv 2, rv a2, iv 2, iv 3, iv 2, iv c2] [(.int 2)]) t → oS p e below s₁ (mkF m 0 #[rv a0, iv 0, rv a2, iv 0, iv 3, .unset, .unset] []) t := fun t k => id (by
    show oS p e below s₁ (mkF m 0 #[rv a0, iv 0, rv a2, iv 0, iv 3, .unset, .unset] []) _
    refine XT.iconstV X0.here hx rfl (0 : Int32) (hb hby d9_0) (by decide) ?_
    refine XS.istore X0.here hx rfl (hb hby d9_1) rfl (l' := #[rv a0, iv 0, rv a2, iv 0, iv 3, iv 0, .unset]) rfl ?_
    refine XS.iload X0.here hx rfl (hb hby d9_3) rfl ?_
    refine XS.iload X0.here hx rfl (hb hby d9_5) rfl ?_
    refine XS.icmpNo X0.here hx rfl (hb hby d9_7) rfl (XT.ii_ge_f (by decide)) ?_
    refine XS.aloadN X0.here hx rfl (hb hby d9_10) rfl rfl ?_
    refine XS.iloadN X0.here hx rfl (hb hby d9_11) rfl ?_
    refine X0.caload hx (j := (0 : Int32)) (v := (.int c0)) (by rw [e0]; exact Ar1.1) (State.isArrayOf_alike hZ.alike Ar1.2.1) Ar1.2.2 hin1 hat1 (g := (mkF m 12 #[rv a0, iv 0, rv a2, iv 0, iv 3, iv 0, .unset] [(.int 0), (.ref a0)])) rfl rfl (hb hby d9_12) _ ?_
    refine XS.istore X0.here hx rfl (hb hby d9_13) rfl (l' := #[rv a0, iv 0, rv a2, iv 0, iv 3, iv 0, iv c0]) rfl ?_
    refine XS.iload X0.here hx rfl (hb hby d9_15) rfl ?_
    refine XT.sipushV X0.here hx rfl (255 : Int32) (hb hby d9_17) (by decide) ?_
    refine XS.icmpYes X0.here hx rfl (pc0 := 20) (pc' := 26) rfl (hb hby d9_20) rfl (XT.ii_le_t hc0) (by decide) (by decide) ?_
    refine XS.aloadN X0.here hx rfl (hb hby d9_26) rfl rfl ?_
    refine XS.iloadN X0.here hx rfl (hb hby d9_27) rfl ?_
    refine XS.iload X0.here hx rfl (hb hby d9_28) rfl ?_
    show oS p e below s₁ (mkF m 30 #[rv a0, iv 0, rv a2, iv 0, iv 3, iv 0, iv c0] [(.int c0), (.int 0), (.ref a2)]) _
    refine XT.i2b X0.here hx rfl (hb hby d9_30) rfl ?_
    refine st3 _ ?_
    refine XT.iincV X3.here hx rfl (1 : Int32) (hb hby d9_32) (by decide) rfl (l' := #[rv a0, iv 1, rv a2, iv 0, iv 3, iv 0, iv c0]) rfl ?_
    refine XT.iincV X3.here hx rfl (1 : Int32) (hb hby d9_35) (by decide) rfl (l' := #[rv a0, iv 1, rv a2, iv 1, iv 3, iv 0, iv c0]) rfl ?_
    refine XT.iincV X3.here hx rfl (1 : Int32) (hb hby d9_38) (by decide) rfl (l' := #[rv a0, iv 1, rv a2, iv 1, iv 3, iv 1, iv c0]) rfl ?_
    refine XS.goto X3.here hx rfl (pc0 := 41) (pc' := 3) rfl (hb hby d9_41) (by decide) (by decide) ?_
    refine XS.iload X3.here hx rfl (hb hby d9_3) rfl ?_
    refine XS.iload X3.here hx rfl (hb hby d9_5) rfl ?_
    refine XS.icmpNo X3.here hx rfl (hb hby d9_7) rfl (XT.ii_ge_f (by decide)) ?_
    refine XS.aloadN X3.here hx rfl (hb hby d9_10) rfl rfl ?_
    refine XS.iloadN X3.here hx rfl (hb hby d9_11) rfl ?_
    refine X3.caload hx (j := (1 : Int32)) (v := (.int c1)) (by rw [e3]; exact Ar5.1) (State.isArrayOf_alike hZ.alike Ar5.2.1) Ar5.2.2 hin5 hat5 (g := (mkF m 12 #[rv a0, iv 1, rv a2, iv 1, iv 3, iv 1, iv c0] [(.int 1), (.ref a0)])) rfl rfl (hb hby d9_12) _ ?_
    refine XS.istore X3.here hx rfl (hb hby d9_13) rfl (l' := #[rv a0, iv 1, rv a2, iv 1, iv 3, iv 1, iv c1]) rfl ?_
    refine XS.iload X3.here hx rfl (hb hby d9_15) rfl ?_
    refine XT.sipushV X3.here hx rfl (255 : Int32) (hb hby d9_17) (by decide) ?_
    show oS p e below T3 (mkF m 20 #[rv a0, iv 1, rv a2, iv 1, iv 3, iv 1, iv c1] [(.int 255), (.int c1)]) _
    refine XS.icmpYes X3.here hx rfl (pc0 := 20) (pc' := 26) rfl (hb hby d9_20) rfl (XT.ii_le_t hc1) (by decide) (by decide) ?_
    refine XS.aloadN X3.here hx rfl (hb hby d9_26) rfl rfl ?_
    refine XS.iloadN X3.here hx rfl (hb hby d9_27) rfl ?_
    refine XS.iload X3.here hx rfl (hb hby d9_28) rfl ?_
    refine XT.i2b X3.here hx rfl (hb hby d9_30) rfl ?_
    refine st7 _ ?_
    refine XT.iincV X7.here hx rfl (1 : Int32) (hb hby d9_32) (by decide) rfl (l' := #[rv a0, iv 2, rv a2, iv 1, iv 3, iv 1, iv c1]) rfl ?_
    refine XT.iincV X7.here hx rfl (1 : Int32) (hb hby d9_35) (by decide) rfl (l' := #[rv a0, iv 2, rv a2, iv 2, iv 3, iv 1, iv c1]) rfl ?_
    refine XT.iincV X7.here hx rfl (1 : Int32) (hb hby d9_38) (by decide) rfl (l' := #[rv a0, iv 2, rv a2, iv 2, iv 3, iv 2, iv c1]) rfl ?_
    refine XS.goto X7.here hx rfl (pc0 := 41) (pc' := 3) rfl (hb hby d9_41) (by decide) (by decide) ?_
    refine XS.iload X7.here hx rfl (hb hby d9_3) rfl ?_
    refine XS.iload X7.here hx rfl (hb hby d9_5) rfl ?_
    refine XS.icmpNo X7.here hx rfl (hb hby d9_7) rfl (XT.ii_ge_f (by decide)) ?_
    refine XS.aloadN X7.here hx rfl (hb hby d9_10) rfl rfl ?_
    refine XS.iloadN X7.here hx rfl (hb hby d9_11) rfl ?_
    show oS p e below T7 (mkF m 12 #[rv a0, iv 2, rv a2, iv 2, iv 3, iv 2, iv c1] [(.int 2), (.ref a0)]) _
    refine X7.caload hx (j := (2 : Int32)) (v := (.int c2)) (by rw [e7]; exact Ar9.1) (State.isArrayOf_alike hZ.alike Ar9.2.1) Ar9.2.2 hin9 hat9 (g := (mkF m 12 #[rv a0, iv 2, rv a2, iv 2, iv 3, iv 2, iv c1] [(.int 2), (.ref a0)])) rfl rfl (hb hby d9_12) _ ?_
    refine XS.istore X7.here hx rfl (hb hby d9_13) rfl (l' := #[rv a0, iv 2, rv a2, iv 2, iv 3, iv 2, iv c2]) rfl ?_
    refine XS.iload X7.here hx rfl (hb hby d9_15) rfl ?_
    refine XT.sipushV X7.here hx rfl (255 : Int32) (hb hby d9_17) (by decide) ?_
    refine XS.icmpNo X7.here hx rfl (hb hby d9_20) rfl (XT.ii_le_f hbg) ?_
    refine XS.iload X7.here hx rfl (hb hby d9_23) rfl ?_
    exact k)
  obtain ⟨fs, hr, hrun, hended, hW, hsame⟩ := X7.leave (v := some (.int 2)) (fun h => by rw [Bd.returns] at h; cases h)
  refine ⟨_, _, pre0 _ (S10 _ ?_), hrun, hended, _, _, rfl, ?_, ⟨_, rfl⟩, hW, hsame.mono (by decide) (by decide)⟩
  · exact retI X7 hx Bd.returns (hb hby d9_25) hr
  · show QrmCp5_3_2 Z a0 a2 ka kb c0 c1 c2 h0 n0 _ T7.heap _
    rw [e7]
    exact ⟨congrArg (fun z => some (Value.int z)) (by decide), N7, K7, V7⟩
def QrmCp3_3_2 (Z : State) (a0 : Addr) (ka : ClassId) (c0 : Int32) (c1 : Int32) (c2 : Int32) (h0 : Heap) (n0 : Nat) (v : Option Value) (h : Heap) (L : List Loc) : Prop := ∃ (b : Addr) (k : ClassId), v = some (.ref b) ∧ Fr n0 L ∧ h0.size ≤ b ∧ Keep h0 h [] ∧ Arv Z h b k .byte (6 : Int32) [(.int (own_lo c0)), (.int (own_hi c0)), (.int (own_lo c1)), (.int (own_hi c1)), (.int (own_lo c2)), (.int (own_hi c2))] (.int (0 : Int32))
set_option maxRecDepth 65536 in
set_option maxHeartbeats 40000000 in
theorem rmCp3_3_2 (l : Launch) (Z : State) (av0 : Array Value) (hw : ∀ d ∈ tables_1, d.before av0 Z = true) (ws : List Jvm.Cond) (a0 : Addr) (ka : ClassId) (c0 : Int32) (c1 : Int32) (c2 : Int32) (h0 : Heap) (n0 : Nat) (Z0 : n0 ≤ h0.size) (hA : Arv Z h0 a0 ka .char (3 : Int32) [(.int c0), (.int c1), (.int c2)] (.int (0 : Int32))) (hc0 : ¬ (255 : Int32) < c0) (hc1 : ¬ (255 : Int32) < c1) (hbg : (255 : Int32) < c2) (hg : 0 ≤ c2.toInt ∧ c2.toInt < 65536) (sA : Sta Z h0 "java/lang/StringUTF16" "$assertionsDisabled" "Z" (.int (1 : Int32))) (sH : Sta Z h0 "java/lang/StringUTF16" "HI_BYTE_SHIFT" "I" (.int (0 : Int32))) (sL : Sta Z h0 "java/lang/StringUTF16" "LO_BYTE_SHIFT" "I" (.int (8 : Int32))) :
    own_Met l mN27 jdk_52_method_16_code 6 (some (.array .byte)) ws ({ frames := 3, cells := 2, slots := 9, locals := 40 } : Room) #[(.ref a0), (.int 0), (.int 3)] Z h0 (QrmCp3_3_2 Z a0 ka c0 c1 c2 h0 n0) := by
  refine MetFree.of_bodySF (plainFor_of_name pn_StringUTF16) hisR ?_
  intro p e s m args below meth c s₁ Bd hml0 hP hK
  obtain ⟨rfl, hZ, hh⟩ := hP
  have hml : c.maxLocals = 6 := hml0
  obtain ⟨hx, hby, hown, hnm, X0, e0⟩ := own_start Bd hml0 hh
  have N0 := Fr.nil n0
  have pre0 : ∀ t, oS p e below s₁ (mkF m 0 #[rv a0, iv 0, iv 3, .unset, .unset, .unset] []) t → Steps p.tables e below (s₁.setTop (entryFrame m #[(.ref a0), (.int 0), (.int 3)] 6)) t := fun t k => castTop (by first | (simp [entryFrame, mkF, argsToLocals, Value.category]; done) | rfl) k
  obtain ⟨T1, h1, k1, X1, e1, E1, A1, st1⟩ := newP X0 hx hZ (hw _ (own_w 15 rfl)) e0 (g := (mkF m 1 #[rv a0, iv 0, iv 3, .unset, .unset, .unset] [(.int 3)])) rfl (hb hby d8_1) rfl (by decide) (cap := 3) (by decide) (by decide) (by decide) (by decide)
  obtain ⟨b1, g1⟩ : ∃ z, z = h0.size := ⟨_, rfl⟩
  rw [← g1] at A1 st1
  have ne_a0_b1 : a0 ≠ b1 := Nat.ne_of_lt (Nat.lt_of_lt_of_le hA.lt (Nat.le_of_eq g1.symm))
  have ge_b1 : n0 ≤ b1 := Nat.le_trans Z0 (Nat.le_of_eq g1.symm)
  have sz_b1 : h0.size ≤ b1 := Nat.le_of_eq g1.symm
  have Z1 : n0 ≤ h1.size := Nat.le_trans Z0 E1.1
  have K1 : Keep h0 h1 [] := (Keep.refl h0 []).ext E1
  have V1 : Arv Z h1 b1 k1 .byte (3 : Int32) [(.int (0 : Int32)), (.int (0 : Int32)), (.int (0 : Int32))] (.int (0 : Int32)) := (Arv.new A1 (by decide)).pad (pad_rep [] (.int (0 : Int32)) 3)
  have f2 := (hA.ext E1)
  obtain ⟨_, T3, Lc3, X3, hQ3, st3⟩ := own_callS (W := 0) (y := mN23) X1 hx hZ hown (hw _ (own_w 41 rfl)) (hw _ (own_w 42 rfl)) (hw _ (own_w 39 rfl)) (hw _ (own_w 43 rfl)) (by decide) (rmCp5_3_2 l Z av0 hw [] a0 b1 ka k1 c0 c1 c2 h1 n0 Z1 f2 V1 ne_a0_b1 ge_b1 hc0 hc1 hbg) (by decide) (by decide) (g := (mkF m 9 #[rv a0, iv 0, iv 3, rv b1, .unset, .unset] [(.int 3), (.int 0), (.ref b1), (.int 0), (.ref a0)])) rfl (by rw [hml]; rfl) (argsL := [(.ref a0), (.int 0), (.ref b1), (.int 0), (.int 3)]) (rest := []) (lenOf pd__CI_BII_I rfl) rfl (hb hby d8_9) rfl e1 (by decide : 1 + 0 ≤ _) (by decide : 3 + 0 ≤ _)
  obtain ⟨rfl, N3q, K3, V3⟩ := hQ3
  have N3 := Fr.app N0 N3q
  have e3 : T3.heap = T3.heap := rfl
  have Zk3 : n0 ≤ T3.heap.size := Nat.le_trans Z1 K3.1
  have Kk3 : Keep h0 T3.heap [] := K1.trans K3 (allS (Or.inr sz_b1) all0)
  have f4 := (f2.keep K3 (ninS ne_a0_b1 nin0))
  have f5 := (own_stak (sA.ext E1) K3 (allS (own_arns V1) all0))
  have f6 := (own_stak (sH.ext E1) K3 (allS (own_arns V1) all0))
  have f7 := (own_stak (sL.ext E1) K3 (allS (own_arns V1) all0))
  obtain ⟨_, T8, Lc8, X8, hQ8, st8⟩ := own_callS (W := 0) (y := mN26) X3 hx hZ hown (hw _ (own_w 102 rfl)) (hw _ (own_w 103 rfl)) (hw _ (own_w 39 rfl)) (hw _ (own_w 104 rfl)) (by decide) (rmTb_3 l Z av0 hw [] a0 ka c0 c1 c2 T3.heap n0 Zk3 f4 f5 f6 f7) (by decide) (by decide) (g := (mkF m 23 #[rv a0, iv 0, iv 3, rv b1, iv 2, .unset] [(.int 3), (.int 0), (.ref a0)])) rfl (by rw [hml]; rfl) (argsL := [(.ref a0), (.int 0), (.int 3)]) (rest := []) (lenOf pd__CII_B rfl) rfl (hb hby d8_23) rfl e3 (by decide : 1 + 1 ≤ _) (by decide : 3 + 6 ≤ _)
  obtain ⟨b8, kb8, rfl, N8q, gb8, K8, V8⟩ := hQ8
  have N8 := Fr.app N3 N8q
  have e8 : T8.heap = T8.heap := rfl
  have ne_a0_b8 : a0 ≠ b8 := Nat.ne_of_lt (Nat.lt_of_lt_of_le f4.lt gb8)
  have ne_b1_b8 : b1 ≠ b8 := Nat.ne_of_lt (Nat.lt_of_lt_of_le V3.lt gb8)
  have ge_b8 : n0 ≤ b8 := Nat.le_trans Zk3 gb8
  have sz_b8 : h0.size ≤ b8 := Nat.le_trans Kk3.1 gb8
  have Zk8 : n0 ≤ T8.heap.size := Nat.le_trans Zk3 K8.1
  have Kk8 : Keep h0 T8.heap [] := Kk3.trans K8 all0
  have f9 := (own_stak f5 K8 all0)
  have f10 := (own_stak f6 K8 all0)
  have f11 := (own_stak f7 K8 all0)
  obtain ⟨_, T12, Lc12, X12, hQ12, st12⟩ := own_callS (W := 0) (y := mN13) X8 hx hZ hown (hw _ (own_w 112 rfl)) (hw _ (own_w 113 rfl)) (hw _ (own_w 39 rfl)) (hw _ (own_w 114 rfl)) (by decide) (rmGc l Z av0 hw [] b8 kb8 (6 : Int32) [(.int (own_lo c0)), (.int (own_hi c0)), (.int (own_lo c1)), (.int (own_hi c1)), (.int (own_lo c2)), (.int (own_hi c2))] (2 : Int32) (own_lo c2) (own_hi c2) T8.heap n0 Zk8 V8 f9 f10 f11 (by decide) (by decide) rfl rfl) (by decide) (by decide) (g := (mkF m 32 #[rv a0, iv 0, iv 3, rv b1, iv 2, rv b8] [(.int 2), (.ref b8)])) rfl (by rw [hml]; rfl) (argsL := [(.ref b8), (.int 2)]) (rest := []) (lenOf pd__BI_C rfl) rfl (hb hby d8_32) rfl e8 (by decide : 2 + 0 ≤ _) (by decide : 9 + 0 ≤ _)
  obtain ⟨rfl, N12q, hh12⟩ := hQ12
  have N12 := Fr.app N8 N12q
  have e12 : T12.heap = T8.heap := hh12
  have S13 : ∀ t, oS p e below T12 (mkF m 56 #[rv a0, iv 0, iv 3, rv b1, iv 2, rv b8] [(.ref b8)]) t → oS p e below s₁ (mkF m 0 #[rv a0, iv 0, iv 3, .unset, .unset, .unset] []) t := fun t k => id (by
    show oS p e below s₁ (mkF m 0 #[rv a0, iv 0, iv 3, .unset, .unset, .unset] []) _
    refine XS.iloadN X0.here hx rfl (hb hby d8_0) rfl ?_
    refine st1 _ ?_
    refine XS.astoreN X1.here hx rfl (hb hby d8_3) rfl rfl (l' := #[rv a0, iv 0, iv 3, rv b1, .unset, .unset]) rfl ?_
    refine XS.aloadN X1.here hx rfl (hb hby d8_4) rfl rfl ?_
    refine XS.iloadN X1.here hx rfl (hb hby d8_5) rfl ?_
    refine XS.aloadN X1.here hx rfl (hb hby d8_6) rfl rfl ?_
    refine XT.iconstV X1.here hx rfl (0 : Int32) (hb hby d8_7) (by decide) ?_
    refine XS.iloadN X1.here hx rfl (hb hby d8_8) rfl ?_
    refine st3 _ ?_
    refine XS.istore X3.here hx rfl (hb hby d8_12) rfl (l' := #[rv a0, iv 0, iv 3, rv b1, iv 2, .unset]) rfl ?_
    refine XS.iload X3.here hx rfl (hb hby d8_14) rfl ?_
    refine XS.iloadN X3.here hx rfl (hb hby d8_16) rfl ?_
    refine XS.icmpNo X3.here hx rfl (hb hby d8_17) rfl (XT.ii_eq_f (by decide)) ?_
    refine XS.aloadN X3.here hx rfl (hb hby d8_20) rfl rfl ?_
    refine XS.iloadN X3.here hx rfl (hb hby d8_21) rfl ?_
    show oS p e below T3 (mkF m 22 #[rv a0, iv 0, iv 3, rv b1, iv 2, .unset] [(.int 0), (.ref a0)]) _
    refine XS.iloadN X3.here hx rfl (hb hby d8_22) rfl ?_
    refine st8 _ ?_
    refine XS.astore X8.here hx rfl (hb hby d8_26) rfl rfl (l' := #[rv a0, iv 0, iv 3, rv b1, iv 2, rv b8]) rfl ?_
    refine XS.aload X8.here hx rfl (hb hby d8_28) rfl rfl ?_
    refine XS.iload X8.here hx rfl (hb hby d8_30) rfl ?_
    refine st12 _ ?_
    refine XT.sipushV X12.here hx rfl (255 : Int32) (hb hby d8_35) (by decide) ?_
    refine XS.icmpYes X12.here hx rfl (pc0 := 38) (pc' := 54) rfl (hb hby d8_38) rfl (XT.ii_gt_t (by rw [own_gcv c2 hg.1 hg.2]; exact hbg)) (by decide) (by decide) ?_
    refine XS.aload X12.here hx rfl (hb hby d8_54) rfl rfl ?_
    exact k)
  obtain ⟨fs, hr, hrun, hended, hW, hsame⟩ := X12.leave (v := some (.ref b8)) (fun h => by rw [Bd.returns] at h; cases h)
  refine ⟨_, _, pre0 _ (S13 _ ?_), hrun, hended, _, _, rfl, ?_, ⟨_, rfl⟩, hW, hsame.mono (by decide) (by decide)⟩
  · jvm_step X12.here [X12.here.top, hx, (hb hby d8_56), X12.method', Bd.returns, Value.isRef, FieldType.isReference]
    first | (intro acts; rw [hr _ acts rfl rfl rfl]) | rw [hr _ _ rfl rfl rfl]
    exact Steps.refl _
  · show QrmCp3_3_2 Z a0 ka c0 c1 c2 h0 n0 _ T12.heap _
    rw [e12]
    exact ⟨_, _, rfl, N12, sz_b8, Kk8, V8⟩
def QrmCp5_3_3 (Z : State) (a0 : Addr) (a2 : Addr) (ka : ClassId) (kb : ClassId) (c0 : Int32) (c1 : Int32) (c2 : Int32) (h0 : Heap) (n0 : Nat) (v : Option Value) (h : Heap) (L : List Loc) : Prop := v = some (.int (3 : Int32)) ∧ Fr n0 L ∧ Keep h0 h [a2] ∧ Arv Z h a2 kb .byte (3 : Int32) [(.int (own_b c0)), (.int (own_b c1)), (.int (own_b c2))] (.int (0 : Int32))
set_option maxRecDepth 65536 in
set_option maxHeartbeats 40000000 in
theorem rmCp5_3_3 (l : Launch) (Z : State) (av0 : Array Value) (hw : ∀ d ∈ tables_1, d.before av0 Z = true) (ws : List Jvm.Cond) (a0 : Addr) (a2 : Addr) (ka : ClassId) (kb : ClassId) (c0 : Int32) (c1 : Int32) (c2 : Int32) (h0 : Heap) (n0 : Nat) (Z0 : n0 ≤ h0.size) (hA : Arv Z h0 a0 ka .char (3 : Int32) [(.int c0), (.int c1), (.int c2)] (.int (0 : Int32))) (hB : Arv Z h0 a2 kb .byte (3 : Int32) [(.int (0 : Int32)), (.int (0 : Int32)), (.int (0 : Int32))] (.int (0 : Int32))) (hne : a0 ≠ a2) (hge : n0 ≤ a2) (hc0 : ¬ (255 : Int32) < c0) (hc1 : ¬ (255 : Int32) < c1) (hc2 : ¬ (255 : Int32) < c2) :
    own_Met l mN23 jdk_52_method_21_code 7 (some .int) ws ({ frames := 0, cells := 0, slots := 0, locals := 0 } : Room) #[(.ref a0), (.int 0), (.ref a2), (.int 0), (.int 3)] Z h0 (QrmCp5_3_3 Z a0 a2 ka kb c0 c1 c2 h0 n0) := by
  refine MetFree.of_bodySF (plainFor_of_name pn_StringUTF16) hisR ?_
  intro p e s m args below meth c s₁ Bd hml0 hP hK
  obtain ⟨rfl, hZ, hh⟩ := hP
  have hml : c.maxLocals = 7 := hml0
  obtain ⟨hx, hby, hown, hnm, X0, e0⟩ := own_start Bd hml0 hh
  have N0 := Fr.nil n0
  have pre0 : ∀ t, oS p e below s₁ (mkF m 0 #[rv a0, iv 0, rv a2, iv 0, iv 3, .unset, .unset] []) t → Steps p.tables e below (s₁.setTop (entryFrame m #[(.ref a0), (.int 0), (.ref a2), (.int 0), (.int 3)] 7)) t := fun t k => castTop (by first | (simp [entryFrame, mkF, argsToLocals, Value.category]; done) | rfl) k
  obtain ⟨cl1, Ar1, qk1, Sz1, Ng1, Hs1, Gs1⟩ := id hA
  have hin1 : ¬ ((0 : Int32) < 0 ∨ cl1.slots.size ≤ ((0 : Int32)).toNatClampNeg) := inb_of Sz1 ⟨by decide, by decide⟩
  have hat1 : cl1.slots[((0 : Int32)).toNatClampNeg]? = some (.int c0) := Hs1.at hin1 rfl
  obtain ⟨cl2, Ar2, qk2, Sz2, Ng2, Hs2, Gs2⟩ := id hB
  have hin2 : ¬ ((0 : Int32) < 0 ∨ cl2.slots.size ≤ ((0 : Int32)).toNatClampNeg) := inb_of Sz2 ⟨by decide, by decide⟩
  obtain ⟨T3, h3, X3, e3, W3, st3⟩ := stB X0 hx hZ e0 Ar2 (j := (0 : Int32)) hin2 (g := (mkF m 31 #[rv a0, iv 0, rv a2, iv 0, iv 3, iv 0, iv c0] [(.int (c0).toInt8.toInt32), (.int 0), (.ref a2)])) rfl rfl (hb hby d9_31)
  have N3 := Fr.snoc X3 N0 hge
  have Z3 : n0 ≤ h3.size := Nat.le_trans Z0 (Nat.le_of_eq W3.size.symm)
  have K3 : Keep h0 h3 [a2] := (Keep.refl h0 [a2]).wr W3 (Or.inl (List.mem_of_getElem? (i := 0) rfl))
  have V3 : Arv Z h3 a2 kb .byte (3 : Int32) [(.int (nar .byte (c0).toInt8.toInt32)), (.int (0 : Int32)), (.int (0 : Int32))] (.int (0 : Int32)) := Arv.set Ar2 qk2 Sz2 Ng2 Hs2 Gs2 (fits_nar_byte _) W3 0 rfl (Nat.le_of_ble_eq_true rfl)
  have f4 := (hA.other W3 hne)
  obtain ⟨cl5, Ar5, qk5, Sz5, Ng5, Hs5, Gs5⟩ := id f4
  have hin5 : ¬ ((1 : Int32) < 0 ∨ cl5.slots.size ≤ ((1 : Int32)).toNatClampNeg) := inb_of Sz5 ⟨by decide, by decide⟩
  have hat5 : cl5.slots[((1 : Int32)).toNatClampNeg]? = some (.int c1) := Hs5.at hin5 rfl
  obtain ⟨cl6, Ar6, qk6, Sz6, Ng6, Hs6, Gs6⟩ := id V3
  have hin6 : ¬ ((1 : Int32) < 0 ∨ cl6.slots.size ≤ ((1 : Int32)).toNatClampNeg) := inb_of Sz6 ⟨by decide, by decide⟩
  obtain ⟨T7, h7, X7, e7, W7, st7⟩ := stB X3 hx hZ e3 Ar6 (j := (1 : Int32)) hin6 (g := (mkF m 31 #[rv a0, iv 1, rv a2, iv 1, iv 3, iv 1, iv c1] [(.int (c1).toInt8.toInt32), (.int 1), (.ref a2)])) rfl rfl (hb hby d9_31)
  have N7 := Fr.snoc X7 N3 hge
  have Z7 : n0 ≤ h7.size := Nat.le_trans Z3 (Nat.le_of_eq W7.size.symm)
  have K7 : Keep h0 h7 [a2] := K3.wr W7 (Or.inl (List.mem_of_getElem? (i := 0) rfl))
  have V7 : Arv Z h7 a2 kb .byte (3 : Int32) [(.int (nar .byte (c0).toInt8.toInt32)), (.int (nar .byte (c1).toInt8.toInt32)), (.int (0 : Int32))] (.int (0 : Int32)) := Arv.set Ar6 qk6 Sz6 Ng6 Hs6 Gs6 (fits_nar_byte _) W7 1 rfl (Nat.le_of_ble_eq_true rfl)
  have f8 := (f4.other W7 hne)
  obtain ⟨cl9, Ar9, qk9, Sz9, Ng9, Hs9, Gs9⟩ := id f8
  have hin9 : ¬ ((2 : Int32) < 0 ∨ cl9.slots.size ≤ ((2 : Int32)).toNatClampNeg) := inb_of Sz9 ⟨by decide, by decide⟩
  have hat9 : cl9.slots[((2 : Int32)).toNatClampNeg]? = some (.int c2) := Hs9.at hin9 rfl
  obtain ⟨cl10, Ar10, qk10, Sz10, Ng10, Hs10, Gs10⟩ := id V7
  have hin10 : ¬ ((2 : Int32) < 0 ∨ cl10.slots.size ≤ ((2 : Int32)).toNatClampNeg) := inb_of Sz10 ⟨by decide, by decide⟩
  obtain ⟨T11, h11, X11, e11, W11, st11⟩ := stB X7 hx hZ e7 Ar10 (j := (2 : Int32)) hin10 (g := (mkF m 31 #[rv a0, iv 2, rv a2, iv 2, iv 3, iv 2, iv c2] [(.int (c2).toInt8.toInt32), (.int 2), (.ref a2)])) rfl rfl (hb hby d9_31)
  have N11 := Fr.snoc X11 N7 hge
  have Z11 : n0 ≤ h11.size := Nat.le_trans Z7 (Nat.le_of_eq W11.size.symm)
  have K11 : Keep h0 h11 [a2] := K7.wr W11 (Or.inl (List.mem_of_getElem? (i := 0) rfl))
  have V11 : Arv Z h11 a2 kb .byte (3 : Int32) [(.int (nar .byte (c0).toInt8.toInt32)), (.int (nar .byte (c1).toInt8.toInt32)), (.int (nar .byte (c2).toInt8.toInt32))] (.int (0 : Int32)) := Arv.set Ar10 qk10 Sz10 Ng10 Hs10 Gs10 (fits_nar_byte _) W11 2 rfl (Nat.le_of_ble_eq_true rfl)
  have S12 : ∀ t, oS p e below T11 (mkF m 46 #[rv a0, iv 3, rv a2, iv 3, iv 3, iv 3, iv c2] [(.int 3)]) t → oS p e below s₁ (mkF m 0 #[rv a0, iv 0, rv a2, iv 0, iv 3, .unset, .unset] []) t := fun t k => id (by
    show oS p e below s₁ (mkF m 0 #[rv a0, iv 0, rv a2, iv 0, iv 3, .unset, .unset] []) _
    refine XT.iconstV X0.here hx rfl (0 : Int32) (hb hby d9_0) (by decide) ?_
    refine XS.istore X0.here hx rfl (hb hby d9_1) rfl (l' := #[rv a0, iv 0, rv a2, iv 0, iv 3, iv 0, .unset]) rfl ?_
    refine XS.iload X0.here hx rfl (hb hby d9_3) rfl ?_
    refine XS.iload X0.here hx rfl (hb hby d9_5) rfl ?_
    refine XS.icmpNo X0.here hx rfl (hb hby d9_7) rfl (XT.ii_ge_f (by decide)) ?_
    refine XS.aloadN X0.here hx rfl (hb hby d9_10) rfl rfl ?_
    refine XS.iloadN X0.here hx rfl (hb hby d9_11) rfl ?_
    refine X0.caload hx (j := (0 : Int32)) (v := (.int c0)) (by rw [e0]; exact Ar1.1) (State.isArrayOf_alike hZ.alike Ar1.2.1) Ar1.2.2 hin1 hat1 (g := (mkF m 12 #[rv a0, iv 0, rv a2, iv 0, iv 3, iv 0, .unset] [(.int 0), (.ref a0)])) rfl rfl (hb hby d9_12) _ ?_
    refine XS.istore X0.here hx rfl (hb hby d9_13) rfl (l' := #[rv a0, iv 0, rv a2, iv 0, iv 3, iv 0, iv c0]) rfl ?_
    refine XS.iload X0.here hx rfl (hb hby d9_15) rfl ?_
    refine XT.sipushV X0.here hx rfl (255 : Int32) (hb hby d9_17) (by decide) ?_
    refine XS.icmpYes X0.here hx rfl (pc0 := 20) (pc' := 26) rfl (hb hby d9_20) rfl (XT.ii_le_t hc0) (by decide) (by decide) ?_
    refine XS.aloadN X0.here hx rfl (hb hby d9_26) rfl rfl ?_
    refine XS.iloadN X0.here hx rfl (hb hby d9_27) rfl ?_
    refine XS.iload X0.here hx rfl (hb hby d9_28) rfl ?_
    show oS p e below s₁ (mkF m 30 #[rv a0, iv 0, rv a2, iv 0, iv 3, iv 0, iv c0] [(.int c0), (.int 0), (.ref a2)]) _
    refine XT.i2b X0.here hx rfl (hb hby d9_30) rfl ?_
    refine st3 _ ?_
    refine XT.iincV X3.here hx rfl (1 : Int32) (hb hby d9_32) (by decide) rfl (l' := #[rv a0, iv 1, rv a2, iv 0, iv 3, iv 0, iv c0]) rfl ?_
    refine XT.iincV X3.here hx rfl (1 : Int32) (hb hby d9_35) (by decide) rfl (l' := #[rv a0, iv 1, rv a2, iv 1, iv 3, iv 0, iv c0]) rfl ?_
    refine XT.iincV X3.here hx rfl (1 : Int32) (hb hby d9_38) (by decide) rfl (l' := #[rv a0, iv 1, rv a2, iv 1, iv 3, iv 1, iv c0]) rfl ?_
    refine XS.goto X3.here hx rfl (pc0 := 41) (pc' := 3) rfl (hb hby d9_41) (by decide) (by decide) ?_
    refine XS.iload X3.here hx rfl (hb hby d9_3) rfl ?_
    refine XS.iload X3.here hx rfl (hb hby d9_5) rfl ?_
    refine XS.icmpNo X3.here hx rfl (hb hby d9_7) rfl (XT.ii_ge_f (by decide)) ?_
    refine XS.aloadN X3.here hx rfl (hb hby d9_10) rfl rfl ?_
    refine XS.iloadN X3.here hx rfl (hb hby d9_11) rfl ?_
    refine X3.caload hx (j := (1 : Int32)) (v := (.int c1)) (by rw [e3]; exact Ar5.1) (State.isArrayOf_alike hZ.alike Ar5.2.1) Ar5.2.2 hin5 hat5 (g := (mkF m 12 #[rv a0, iv 1, rv a2, iv 1, iv 3, iv 1, iv c0] [(.int 1), (.ref a0)])) rfl rfl (hb hby d9_12) _ ?_
    refine XS.istore X3.here hx rfl (hb hby d9_13) rfl (l' := #[rv a0, iv 1, rv a2, iv 1, iv 3, iv 1, iv c1]) rfl ?_
    refine XS.iload X3.here hx rfl (hb hby d9_15) rfl ?_
    refine XT.sipushV X3.here hx rfl (255 : Int32) (hb hby d9_17) (by decide) ?_
    show oS p e below T3 (mkF m 20 #[rv a0, iv 1, rv a2, iv 1, iv 3, iv 1, iv c1] [(.int 255), (.int c1)]) _
    refine XS.icmpYes X3.here hx rfl (pc0 := 20) (pc' := 26) rfl (hb hby d9_20) rfl (XT.ii_le_t hc1) (by decide) (by decide) ?_
    refine XS.aloadN X3.here hx rfl (hb hby d9_26) rfl rfl ?_
    refine XS.iloadN X3.here hx rfl (hb hby d9_27) rfl ?_
    refine XS.iload X3.here hx rfl (hb hby d9_28) rfl ?_
    refine XT.i2b X3.here hx rfl (hb hby d9_30) rfl ?_
    refine st7 _ ?_
    refine XT.iincV X7.here hx rfl (1 : Int32) (hb hby d9_32) (by decide) rfl (l' := #[rv a0, iv 2, rv a2, iv 1, iv 3, iv 1, iv c1]) rfl ?_
    refine XT.iincV X7.here hx rfl (1 : Int32) (hb hby d9_35) (by decide) rfl (l' := #[rv a0, iv 2, rv a2, iv 2, iv 3, iv 1, iv c1]) rfl ?_
    refine XT.iincV X7.here hx rfl (1 : Int32) (hb hby d9_38) (by decide) rfl (l' := #[rv a0, iv 2, rv a2, iv 2, iv 3, iv 2, iv c1]) rfl ?_
    refine XS.goto X7.here hx rfl (pc0 := 41) (pc' := 3) rfl (hb hby d9_41) (by decide) (by decide) ?_
    refine XS.iload X7.here hx rfl (hb hby d9_3) rfl ?_
    refine XS.iload X7.here hx rfl (hb hby d9_5) rfl ?_
    refine XS.icmpNo X7.here hx rfl (hb hby d9_7) rfl (XT.ii_ge_f (by decide)) ?_
    refine XS.aloadN X7.here hx rfl (hb hby d9_10) rfl rfl ?_
    refine XS.iloadN X7.here hx rfl (hb hby d9_11) rfl ?_
    show oS p e below T7 (mkF m 12 #[rv a0, iv 2, rv a2, iv 2, iv 3, iv 2, iv c1] [(.int 2), (.ref a0)]) _
    refine X7.caload hx (j := (2 : Int32)) (v := (.int c2)) (by rw [e7]; exact Ar9.1) (State.isArrayOf_alike hZ.alike Ar9.2.1) Ar9.2.2 hin9 hat9 (g := (mkF m 12 #[rv a0, iv 2, rv a2, iv 2, iv 3, iv 2, iv c1] [(.int 2), (.ref a0)])) rfl rfl (hb hby d9_12) _ ?_
    refine XS.istore X7.here hx rfl (hb hby d9_13) rfl (l' := #[rv a0, iv 2, rv a2, iv 2, iv 3, iv 2, iv c2]) rfl ?_
    refine XS.iload X7.here hx rfl (hb hby d9_15) rfl ?_
    refine XT.sipushV X7.here hx rfl (255 : Int32) (hb hby d9_17) (by decide) ?_
    refine XS.icmpYes X7.here hx rfl (pc0 := 20) (pc' := 26) rfl (hb hby d9_20) rfl (XT.ii_le_t hc2) (by decide) (by decide) ?_
    refine XS.aloadN X7.here hx rfl (hb hby d9_26) rfl rfl ?_
    refine XS.iloadN X7.here hx rfl (hb hby d9_27) rfl ?_
    refine XS.iload X7.here hx rfl (hb hby d9_28) rfl ?_
    refine XT.i2b X7.here hx rfl (hb hby d9_30) rfl ?_
    refine st11 _ ?_
    refine XT.iincV X11.here hx rfl (1 : Int32) (hb hby d9_32) (by decide) rfl (l' := #[rv a0, iv 3, rv a2, iv 2, iv 3, iv 2, iv c2]) rfl ?_
    refine XT.iincV X11.here hx rfl (1 : Int32) (hb hby d9_35) (by decide) rfl (l' := #[rv a0, iv 3, rv a2, iv 3, iv 3, iv 2, iv c2]) rfl ?_
    refine XT.iincV X11.here hx rfl (1 : Int32) (hb hby d9_38) (by decide) rfl (l' := #[rv a0, iv 3, rv a2, iv 3, iv 3, iv 3, iv c2]) rfl ?_
    refine XS.goto X11.here hx rfl (pc0 := 41) (pc' := 3) rfl (hb hby d9_41) (by decide) (by decide) ?_
    refine XS.iload X11.here hx rfl (hb hby d9_3) rfl ?_
    show oS p e below T11 (mkF m 5 #[rv a0, iv 3, rv a2, iv 3, iv 3, iv 3, iv c2] [(.int 3)]) _
    refine XS.iload X11.here hx rfl (hb hby d9_5) rfl ?_
    refine XS.icmpYes X11.here hx rfl (pc0 := 7) (pc' := 44) rfl (hb hby d9_7) rfl (XT.ii_ge_t (by decide)) (by decide) (by decide) ?_
    refine XS.iload X11.here hx rfl (hb hby d9_44) rfl ?_
    exact k)
  obtain ⟨fs, hr, hrun, hended, hW, hsame⟩ := X11.leave (v := some (.int 3)) (fun h => by rw [Bd.returns] at h; cases h)
  refine ⟨_, _, pre0 _ (S12 _ ?_), hrun, hended, _, _, rfl, ?_, ⟨_, rfl⟩, hW, hsame.mono (by decide) (by decide)⟩
  · exact retI X11 hx Bd.returns (hb hby d9_46) hr
  · show QrmCp5_3_3 Z a0 a2 ka kb c0 c1 c2 h0 n0 _ T11.heap _
    rw [e11]
    exact ⟨congrArg (fun z => some (Value.int z)) (by decide), N11, K11, V11⟩
def QrmCp3_3_3 (Z : State) (a0 : Addr) (ka : ClassId) (c0 : Int32) (c1 : Int32) (c2 : Int32) (h0 : Heap) (n0 : Nat) (v : Option Value) (h : Heap) (L : List Loc) : Prop := ∃ (b : Addr) (k : ClassId), v = some (.ref b) ∧ Fr n0 L ∧ h0.size ≤ b ∧ Keep h0 h [] ∧ Arv Z h b k .byte (3 : Int32) [(.int (own_b c0)), (.int (own_b c1)), (.int (own_b c2))] (.int (0 : Int32))
set_option maxRecDepth 65536 in
set_option maxHeartbeats 40000000 in
theorem rmCp3_3_3 (l : Launch) (Z : State) (av0 : Array Value) (hw : ∀ d ∈ tables_1, d.before av0 Z = true) (ws : List Jvm.Cond) (a0 : Addr) (ka : ClassId) (c0 : Int32) (c1 : Int32) (c2 : Int32) (h0 : Heap) (n0 : Nat) (Z0 : n0 ≤ h0.size) (hA : Arv Z h0 a0 ka .char (3 : Int32) [(.int c0), (.int c1), (.int c2)] (.int (0 : Int32))) (hc0 : ¬ (255 : Int32) < c0) (hc1 : ¬ (255 : Int32) < c1) (hc2 : ¬ (255 : Int32) < c2) :
    own_Met l mN27 jdk_52_method_16_code 6 (some (.array .byte)) ws ({ frames := 3, cells := 2, slots := 9, locals := 40 } : Room) #[(.ref a0), (.int 0), (.int 3)] Z h0 (QrmCp3_3_3 Z a0 ka c0 c1 c2 h0 n0) := by
  refine MetFree.of_bodySF (plainFor_of_name pn_StringUTF16) hisR ?_
  intro p e s m args below meth c s₁ Bd hml0 hP hK
  obtain ⟨rfl, hZ, hh⟩ := hP
  have hml : c.maxLocals = 6 := hml0
  obtain ⟨hx, hby, hown, hnm, X0, e0⟩ := own_start Bd hml0 hh
  have N0 := Fr.nil n0
  have pre0 : ∀ t, oS p e below s₁ (mkF m 0 #[rv a0, iv 0, iv 3, .unset, .unset, .unset] []) t → Steps p.tables e below (s₁.setTop (entryFrame m #[(.ref a0), (.int 0), (.int 3)] 6)) t := fun t k => castTop (by first | (simp [entryFrame, mkF, argsToLocals, Value.category]; done) | rfl) k
  obtain ⟨T1, h1, k1, X1, e1, E1, A1, st1⟩ := newP X0 hx hZ (hw _ (own_w 15 rfl)) e0 (g := (mkF m 1 #[rv a0, iv 0, iv 3, .unset, .unset, .unset] [(.int 3)])) rfl (hb hby d8_1) rfl (by decide) (cap := 3) (by decide) (by decide) (by decide) (by decide)
  obtain ⟨b1, g1⟩ : ∃ z, z = h0.size := ⟨_, rfl⟩
  rw [← g1] at A1 st1
  have ne_a0_b1 : a0 ≠ b1 := Nat.ne_of_lt (Nat.lt_of_lt_of_le hA.lt (Nat.le_of_eq g1.symm))
  have ge_b1 : n0 ≤ b1 := Nat.le_trans Z0 (Nat.le_of_eq g1.symm)
  have sz_b1 : h0.size ≤ b1 := Nat.le_of_eq g1.symm
  have Z1 : n0 ≤ h1.size := Nat.le_trans Z0 E1.1
  have K1 : Keep h0 h1 [] := (Keep.refl h0 []).ext E1
  have V1 : Arv Z h1 b1 k1 .byte (3 : Int32) [(.int (0 : Int32)), (.int (0 : Int32)), (.int (0 : Int32))] (.int (0 : Int32)) := (Arv.new A1 (by decide)).pad (pad_rep [] (.int (0 : Int32)) 3)
  have f2 := (hA.ext E1)
  obtain ⟨_, T3, Lc3, X3, hQ3, st3⟩ := own_callS (W := 0) (y := mN23) X1 hx hZ hown (hw _ (own_w 41 rfl)) (hw _ (own_w 42 rfl)) (hw _ (own_w 39 rfl)) (hw _ (own_w 43 rfl)) (by decide) (rmCp5_3_3 l Z av0 hw [] a0 b1 ka k1 c0 c1 c2 h1 n0 Z1 f2 V1 ne_a0_b1 ge_b1 hc0 hc1 hc2) (by decide) (by decide) (g := (mkF m 9 #[rv a0, iv 0, iv 3, rv b1, .unset, .unset] [(.int 3), (.int 0), (.ref b1), (.int 0), (.ref a0)])) rfl (by rw [hml]; rfl) (argsL := [(.ref a0), (.int 0), (.ref b1), (.int 0), (.int 3)]) (rest := []) (lenOf pd__CI_BII_I rfl) rfl (hb hby d8_9) rfl e1 (by decide : 1 + 0 ≤ _) (by decide : 3 + 0 ≤ _)
  obtain ⟨rfl, N3q, K3, V3⟩ := hQ3
  have N3 := Fr.app N0 N3q
  have e3 : T3.heap = T3.heap := rfl
  have Zk3 : n0 ≤ T3.heap.size := Nat.le_trans Z1 K3.1
  have Kk3 : Keep h0 T3.heap [] := K1.trans K3 (allS (Or.inr sz_b1) all0)
  have S4 : ∀ t, oS p e below T3 (mkF m 58 #[rv a0, iv 0, iv 3, rv b1, iv 3, .unset] [(.ref b1)]) t → oS p e below s₁ (mkF m 0 #[rv a0, iv 0, iv 3, .unset, .unset, .unset] []) t := fun t k => id (by
    show oS p e below s₁ (mkF m 0 #[rv a0, iv 0, iv 3, .unset, .unset, .unset] []) _
    refine XS.iloadN X0.here hx rfl (hb hby d8_0) rfl ?_
    refine st1 _ ?_
    refine XS.astoreN X1.here hx rfl (hb hby d8_3) rfl rfl (l' := #[rv a0, iv 0, iv 3, rv b1, .unset, .unset]) rfl ?_
    refine XS.aloadN X1.here hx rfl (hb hby d8_4) rfl rfl ?_
    refine XS.iloadN X1.here hx rfl (hb hby d8_5) rfl ?_
    refine XS.aloadN X1.here hx rfl (hb hby d8_6) rfl rfl ?_
    refine XT.iconstV X1.here hx rfl (0 : Int32) (hb hby d8_7) (by decide) ?_
    refine XS.iloadN X1.here hx rfl (hb hby d8_8) rfl ?_
    refine st3 _ ?_
    refine XS.istore X3.here hx rfl (hb hby d8_12) rfl (l' := #[rv a0, iv 0, iv 3, rv b1, iv 3, .unset]) rfl ?_
    refine XS.iload X3.here hx rfl (hb hby d8_14) rfl ?_
    refine XS.iloadN X3.here hx rfl (hb hby d8_16) rfl ?_
    refine XS.icmpYes X3.here hx rfl (pc0 := 17) (pc' := 57) rfl (hb hby d8_17) rfl (XT.ii_eq_t (by decide)) (by decide) (by decide) ?_
    refine XS.aloadN X3.here hx rfl (hb hby d8_57) rfl rfl ?_
    exact k)
  obtain ⟨fs, hr, hrun, hended, hW, hsame⟩ := X3.leave (v := some (.ref b1)) (fun h => by rw [Bd.returns] at h; cases h)
  refine ⟨_, _, pre0 _ (S4 _ ?_), hrun, hended, _, _, rfl, ?_, ⟨_, rfl⟩, hW, hsame.mono (by decide) (by decide)⟩
  · jvm_step X3.here [X3.here.top, hx, (hb hby d8_58), X3.method', Bd.returns, Value.isRef, FieldType.isReference]
    first | (intro acts; rw [hr _ acts rfl rfl rfl]) | rw [hr _ _ rfl rfl rfl]
    exact Steps.refl _
  · show QrmCp3_3_3 Z a0 ka c0 c1 c2 h0 n0 _ T3.heap _
    rw [e3]
    exact ⟨_, _, rfl, N3, sz_b1, Kk3, V3⟩
def QCp3_3 (Z : State) (c0 : Int32) (c1 : Int32) (c2 : Int32) (h0 : Heap) (n0 : Nat) (v : Option Value) (h : Heap) (L : List Loc) : Prop := (∃ (b : Addr) (k : ClassId), v = some (.ref b) ∧ Fr n0 L ∧ h0.size ≤ b ∧ Keep h0 h [] ∧ Arv Z h b k .byte (3 : Int32) [(.int (own_b c0)), (.int (own_b c1)), (.int (own_b c2))] (.int (0 : Int32)) ∧ ¬ (255 : Int32) < c0 ∧ ¬ (255 : Int32) < c1 ∧ ¬ (255 : Int32) < c2) ∨ (∃ (b : Addr) (k : ClassId), v = some (.ref b) ∧ Fr n0 L ∧ h0.size ≤ b ∧ Keep h0 h [] ∧ Arv Z h b k .byte (6 : Int32) [(.int (own_lo c0)), (.int (own_hi c0)), (.int (own_lo c1)), (.int (own_hi c1)), (.int (own_lo c2)), (.int (own_hi c2))] (.int (0 : Int32)))
theorem rmCp3J_3 (l : Launch) (Z : State) (av0 : Array Value) (hw : ∀ d ∈ tables_1, d.before av0 Z = true) (ws : List Jvm.Cond) (a0 : Addr) (ka : ClassId) (c0 : Int32) (c1 : Int32) (c2 : Int32) (h0 : Heap) (n0 : Nat) (Z0 : n0 ≤ h0.size) (hA : Arv Z h0 a0 ka .char (3 : Int32) [(.int c0), (.int c1), (.int c2)] (.int (0 : Int32))) (hg0 : 0 ≤ c0.toInt ∧ c0.toInt < 65536) (hg1 : 0 ≤ c1.toInt ∧ c1.toInt < 65536) (hg2 : 0 ≤ c2.toInt ∧ c2.toInt < 65536) (sA : Sta Z h0 "java/lang/StringUTF16" "$assertionsDisabled" "Z" (.int (1 : Int32))) (sH : Sta Z h0 "java/lang/StringUTF16" "HI_BYTE_SHIFT" "I" (.int (0 : Int32))) (sL : Sta Z h0 "java/lang/StringUTF16" "LO_BYTE_SHIFT" "I" (.int (8 : Int32))) :
    own_Met l mN27 jdk_52_method_16_code 6 (some (.array .byte)) ws ({ frames := 3, cells := 2, slots := 9, locals := 40 } : Room) #[(.ref a0), (.int (0 : Int32)), (.int (3 : Int32))] Z h0 (QCp3_3 Z c0 c1 c2 h0 n0) := by
  by_cases q0 : (255 : Int32) < c0
  · exact own_weak (rmCp3_3_0 l Z av0 hw ws a0 ka c0 c1 c2 h0 n0 Z0 hA  q0 hg0 sA sH sL) (fun v t L q => Or.inr q)
  by_cases q1 : (255 : Int32) < c1
  · exact own_weak (rmCp3_3_1 l Z av0 hw ws a0 ka c0 c1 c2 h0 n0 Z0 hA q0 q1 hg1 sA sH sL) (fun v t L q => Or.inr q)
  by_cases q2 : (255 : Int32) < c2
  · exact own_weak (rmCp3_3_2 l Z av0 hw ws a0 ka c0 c1 c2 h0 n0 Z0 hA q0 q1 q2 hg2 sA sH sL) (fun v t L q => Or.inr q)
  exact own_weak (rmCp3_3_3 l Z av0 hw ws a0 ka c0 c1 c2 h0 n0 Z0 hA q0 q1 q2) (fun v t L ⟨b, k, z1, z2, z3, z4, z5⟩ => Or.inl ⟨b, k, z1, z2, z3, z4, z5, q0, q1, q2⟩)
def QrmCd_3_0 (Z : State) (a0 : Addr) (ka : ClassId) (vs : List Value) (h0 : Heap) (n0 : Nat) (v : Option Value) (h : Heap) (L : List Loc) : Prop := v = some (.int 0) ∧ Fr n0 L ∧ h = h0
set_option maxRecDepth 65536 in
set_option maxHeartbeats 40000000 in
theorem rmCd_3_0 (l : Launch) (Z : State) (av0 : Array Value) (hw : ∀ d ∈ tables_1, d.before av0 Z = true) (ws : List Jvm.Cond) (a0 : Addr) (ka : ClassId) (vs : List Value) (h0 : Heap) (n0 : Nat) (Z0 : n0 ≤ h0.size) (hA : Arv Z h0 a0 ka .byte (3 : Int32) vs (.int (0 : Int32))) :
    own_Met l mN28 jdk_52_method_15_code 2 (some .byte) ws ({ frames := 0, cells := 0, slots := 0, locals := 0 } : Room) #[(.ref a0), (.int 3)] Z h0 (QrmCd_3_0 Z a0 ka vs h0 n0) := by
  refine MetFree.of_bodySF (plainFor_of_name pn_StringUTF16) hisR ?_
  intro p e s m args below meth c s₁ Bd hml0 hP hK
  obtain ⟨rfl, hZ, hh⟩ := hP
  have hml : c.maxLocals = 2 := hml0
  obtain ⟨hx, hby, hown, hnm, X0, e0⟩ := own_start Bd hml0 hh
  have N0 := Fr.nil n0
  have pre0 : ∀ t, oS p e below s₁ (mkF m 0 #[rv a0, iv 3] []) t → Steps p.tables e below (s₁.setTop (entryFrame m #[(.ref a0), (.int 3)] 2)) t := fun t k => castTop (by first | (simp [entryFrame, mkF, argsToLocals, Value.category]; done) | rfl) k
  obtain ⟨cl1, Ar1, qk1, Sz1, Ng1, Hs1, Gs1⟩ := id hA
  have S2 : ∀ t, oS p e below s₁ (mkF m 8 #[rv a0, iv 3] [(.int 0)]) t → oS p e below s₁ (mkF m 0 #[rv a0, iv 3] []) t := fun t k => id (by
    show oS p e below s₁ (mkF m 0 #[rv a0, iv 3] []) _
    refine XS.iloadN X0.here hx rfl (hb hby d10_0) rfl ?_
    refine XS.aloadN X0.here hx rfl (hb hby d10_1) rfl rfl ?_
    refine X0.arraylength hx (by rw [e0]; exact Ar1.1) (State.isArrayOf_alike hZ.alike Ar1.2.1) (g := (mkF m 2 #[rv a0, iv 3] [(.ref a0), (.int 3)])) rfl rfl (hb hby d10_2) _ ?_
    rw [len_of Sz1 Ng1]
    refine XS.isub X0.here hx rfl (hb hby d10_3) rfl ?_
    refine XT.bipushV X0.here hx rfl (31 : Int32) (hb hby d10_4) (by decide) ?_
    refine XT.iushr X0.here hx rfl (hb hby d10_6) rfl ?_
    refine XT.i2b X0.here hx rfl (hb hby d10_7) rfl ?_
    exact k)
  obtain ⟨fs, hr, hrun, hended, hW, hsame⟩ := X0.leave (v := some (.int (nar .byte (0 : Int32)))) (fun h => by rw [Bd.returns] at h; cases h)
  refine ⟨_, _, pre0 _ (S2 _ ?_), hrun, hended, _, _, rfl, ?_, ⟨_, rfl⟩, hW, hsame.mono (by decide) (by decide)⟩
  · exact retN X0 hx (t := .byte) Bd.returns (by simp) (hb hby d10_8) hr
  · show QrmCd_3_0 Z a0 ka vs h0 n0 _ s₁.heap _
    rw [e0]
    exact ⟨congrArg (fun z => some (Value.int z)) (by decide), N0, rfl⟩
def QrmCd_3_1 (Z : State) (a0 : Addr) (ka : ClassId) (vs : List Value) (h0 : Heap) (n0 : Nat) (v : Option Value) (h : Heap) (L : List Loc) : Prop := v = some (.int 1) ∧ Fr n0 L ∧ h = h0
set_option maxRecDepth 65536 in
set_option maxHeartbeats 40000000 in
theorem rmCd_3_1 (l : Launch) (Z : State) (av0 : Array Value) (hw : ∀ d ∈ tables_1, d.before av0 Z = true) (ws : List Jvm.Cond) (a0 : Addr) (ka : ClassId) (vs : List Value) (h0 : Heap) (n0 : Nat) (Z0 : n0 ≤ h0.size) (hA : Arv Z h0 a0 ka .byte (6 : Int32) vs (.int (0 : Int32))) :
    own_Met l mN28 jdk_52_method_15_code 2 (some .byte) ws ({ frames := 0, cells := 0, slots := 0, locals := 0 } : Room) #[(.ref a0), (.int 3)] Z h0 (QrmCd_3_1 Z a0 ka vs h0 n0) := by
  refine MetFree.of_bodySF (plainFor_of_name pn_StringUTF16) hisR ?_
  intro p e s m args below meth c s₁ Bd hml0 hP hK
  obtain ⟨rfl, hZ, hh⟩ := hP
  have hml : c.maxLocals = 2 := hml0
  obtain ⟨hx, hby, hown, hnm, X0, e0⟩ := own_start Bd hml0 hh
  have N0 := Fr.nil n0
  have pre0 : ∀ t, oS p e below s₁ (mkF m 0 #[rv a0, iv 3] []) t → Steps p.tables e below (s₁.setTop (entryFrame m #[(.ref a0), (.int 3)] 2)) t := fun t k => castTop (by first | (simp [entryFrame, mkF, argsToLocals, Value.category]; done) | rfl) k
  obtain ⟨cl1, Ar1, qk1, Sz1, Ng1, Hs1, Gs1⟩ := id hA
  have S2 : ∀ t, oS p e below s₁ (mkF m 8 #[rv a0, iv 3] [(.int 1)]) t → oS p e below s₁ (mkF m 0 #[rv a0, iv 3] []) t := fun t k => id (by
    show oS p e below s₁ (mkF m 0 #[rv a0, iv 3] []) _
    refine XS.iloadN X0.here hx rfl (hb hby d10_0) rfl ?_
    refine XS.aloadN X0.here hx rfl (hb hby d10_1) rfl rfl ?_
    refine X0.arraylength hx (by rw [e0]; exact Ar1.1) (State.isArrayOf_alike hZ.alike Ar1.2.1) (g := (mkF m 2 #[rv a0, iv 3] [(.ref a0), (.int 3)])) rfl rfl (hb hby d10_2) _ ?_
    rw [len_of Sz1 Ng1]
    refine XS.isub X0.here hx rfl (hb hby d10_3) rfl ?_
    refine XT.bipushV X0.here hx rfl (31 : Int32) (hb hby d10_4) (by decide) ?_
    refine XT.iushr X0.here hx rfl (hb hby d10_6) rfl ?_
    refine XT.i2b X0.here hx rfl (hb hby d10_7) rfl ?_
    exact k)
  obtain ⟨fs, hr, hrun, hended, hW, hsame⟩ := X0.leave (v := some (.int (nar .byte (1 : Int32)))) (fun h => by rw [Bd.returns] at h; cases h)
  refine ⟨_, _, pre0 _ (S2 _ ?_), hrun, hended, _, _, rfl, ?_, ⟨_, rfl⟩, hW, hsame.mono (by decide) (by decide)⟩
  · exact retN X0 hx (t := .byte) Bd.returns (by simp) (hb hby d10_8) hr
  · show QrmCd_3_1 Z a0 ka vs h0 n0 _ s₁.heap _
    rw [e0]
    exact ⟨congrArg (fun z => some (Value.int z)) (by decide), N0, rfl⟩
def QrmSi4_3 (Z : State) (a0 : Addr) (a1 : Addr) (ka : ClassId) (wC : Int32) (c0 : Int32) (c1 : Int32) (c2 : Int32) (h0 : Heap) (n0 : Nat) (v : Option Value) (h : Heap) (L : List Loc) : Prop := v = none ∧ Fr n0 L ∧ Keep h0 h [a0] ∧ own_St3 Z h a0 c0 c1 c2
set_option maxRecDepth 65536 in
set_option maxHeartbeats 40000000 in
theorem rmSi4_3 (l : Launch) (Z : State) (av0 : Array Value) (hw : ∀ d ∈ tables_1, d.before av0 Z = true) (ws : List Jvm.Cond) (a0 : Addr) (a1 : Addr) (ka : ClassId) (wC : Int32) (c0 : Int32) (c1 : Int32) (c2 : Int32) (h0 : Heap) (n0 : Nat) (Z0 : n0 ≤ h0.size) (hE : Exa Z h0 a0 "java/lang/String") (hV : Fld Z h0 a0 "java/lang/String" "value" "[B" .null) (hC : Fld Z h0 a0 "java/lang/String" "coder" "B" (.int (0 : Int32))) (hge : n0 ≤ a0) (hA : Arv Z h0 a1 ka .char (3 : Int32) [(.int c0), (.int c1), (.int c2)] (.int (0 : Int32))) (hS : Sta Z h0 "java/lang/String" "COMPACT_STRINGS" "Z" (.int wC)) (hw0 : ¬ wC = (0 : Int32)) (hg0 : 0 ≤ c0.toInt ∧ c0.toInt < 65536) (hg1 : 0 ≤ c1.toInt ∧ c1.toInt < 65536) (hg2 : 0 ≤ c2.toInt ∧ c2.toInt < 65536) (sA : Sta Z h0 "java/lang/StringUTF16" "$assertionsDisabled" "Z" (.int (1 : Int32))) (sH : Sta Z h0 "java/lang/StringUTF16" "HI_BYTE_SHIFT" "I" (.int (0 : Int32))) (sL : Sta Z h0 "java/lang/StringUTF16" "LO_BYTE_SHIFT" "I" (.int (8 : Int32))) :
    own_Met l mN3 jdk_42_method_149_code 6 none ws ({ frames := 4, cells := 2, slots := 9, locals := 57 } : Room) #[(.ref a0), (.ref a1), (.int 0), (.int 3), .null] Z h0 (QrmSi4_3 Z a0 a1 ka wC c0 c1 c2 h0 n0) := by
  refine MetFree.of_bodySF (plainFor_of_name pn_String) hisR ?_
  intro p e s m args below meth c s₁ Bd hml0 hP hK
  obtain ⟨rfl, hZ, hh⟩ := hP
  have hml : c.maxLocals = 6 := hml0
  obtain ⟨hx, hby, hown, hnm, X0, e0⟩ := own_start Bd hml0 hh
  have N0 := Fr.nil n0
  have pre0 : ∀ t, oS p e below s₁ (mkF m 0 #[rv a0, rv a1, iv 0, iv 3, .val .null, .unset] []) t → Steps p.tables e below (s₁.setTop (entryFrame m #[(.ref a0), (.ref a1), (.int 0), (.int 3), .null] 6)) t := fun t k => castTop (by first | (simp [entryFrame, mkF, argsToLocals, Value.category]; done) | rfl) k
  obtain ⟨T1, X1, e1, st1⟩ := initO X0 hx hZ hown (hw _ (own_w 11 rfl)) (hw _ (own_w 12 rfl)) (hw _ (own_w 13 rfl)) e0 (g := (mkF m 1 #[rv a0, rv a1, iv 0, iv 3, .val .null, .unset] [(.ref a0)])) rfl (by rw [hml]; rfl) rfl (hb hby d2_1) (by decide) (W := 0) (by show 2 * 0 + _ ≤ _; exact Nat.le_of_eq rfl) (by decide)
  obtain ⟨T2, X2, e2, st2⟩ := getS2 X1 hx hZ hown (host := "") (Or.inl (hw _ (own_w 25 rfl))) Via.refl e1 hS (g := (mkF m 27 #[rv a0, rv a1, iv 0, iv 3, .val .null, .unset] [])) rfl (hb hby d2_27)
  obtain ⟨_, T3, Lc3, X3, hQ3, st3⟩ := own_callS (W := 0) (y := mN27) X2 hx hZ hown (hw _ (own_w 37 rfl)) (hw _ (own_w 38 rfl)) (hw _ (own_w 39 rfl)) (hw _ (own_w 40 rfl)) (by decide) (rmCp3J_3 l Z av0 hw [] a1 ka c0 c1 c2 h0 n0 Z0 hA hg0 hg1 hg2 sA sH sL) (by decide) (by decide) (g := (mkF m 36 #[rv a0, rv a1, iv 0, iv 3, .val .null, .unset] [(.int 3), (.int 0), (.ref a1)])) rfl (by rw [hml]; rfl) (argsL := [(.ref a1), (.int 0), (.int 3)]) (rest := []) (lenOf pd__CII_B rfl) rfl (hb hby d2_36) rfl e2 (by decide : 0 + 2 ≤ _) (by decide : 0 + 9 ≤ _)
  rcases hQ3 with ⟨b3, kb3, rfl, N3q, gb3, K3, V3, lt0_3, lt1_3, lt2_3⟩ | ⟨b3, kb3, rfl, N3q, gb3, K3, V3⟩
  · have N3 := Fr.app N0 N3q
    have e3 : T3.heap = T3.heap := rfl
    have ne_a0_b3 : a0 ≠ b3 := Nat.ne_of_lt (Nat.lt_of_lt_of_le hE.lt gb3)
    have ne_a1_b3 : a1 ≠ b3 := Nat.ne_of_lt (Nat.lt_of_lt_of_le hA.lt gb3)
    have ge_b3 : n0 ≤ b3 := Nat.le_trans Z0 gb3
    have sz_b3 : h0.size ≤ b3 := gb3
    have Zk3 : n0 ≤ T3.heap.size := Nat.le_trans Z0 K3.1
    have Kk3 : Keep h0 T3.heap [a0] := (Keep.refl h0 [a0]).trans K3 all0
    obtain ⟨_, T4, Lc4, X4, hQ4, st4⟩ := own_callS (W := 1) (y := mN28) X3 hx hZ hown (hw _ (own_w 44 rfl)) (hw _ (own_w 45 rfl)) (hw _ (own_w 39 rfl)) (hw _ (own_w 46 rfl)) (by decide) (rmCd_3_0 l Z av0 hw [] b3 kb3 [(.int (own_b c0)), (.int (own_b c1)), (.int (own_b c2))] T3.heap n0 Zk3 V3) (by decide) (by decide) (g := (mkF m 45 #[rv a0, rv a1, iv 0, iv 3, .val .null, rv b3] [(.int 3), (.ref b3), (.ref a0)])) rfl (by rw [hml]; rfl) (argsL := [(.ref b3), (.int 3)]) (rest := [(.ref a0)]) (lenOf pd__BI_B rfl) rfl (hb hby d2_45) rfl e3 (by decide : 2 + 0 ≤ _) (by decide : 9 + 0 ≤ _)
    obtain ⟨rfl, N4q, hh4⟩ := hQ4
    have N4 := Fr.app N3 N4q
    have e4 : T4.heap = T3.heap := hh4
    have f5 := (hC.keep K3 nin0)
    have f6 := (hE.keep K3)
    obtain ⟨T7, h7, X7, e7, W7, st7⟩ := putFN X4 hx hZ hown (hw _ (own_w 21 rfl)) Via.refl e4 f5 f6 (Or.inr ⟨(hw _ (own_w 17 rfl)), rfl, hnm⟩) (hw _ (own_w 1 rfl)) (ty := .byte) (v' := (.int 0)) (by decide) rfl rfl (g := (mkF m 48 #[rv a0, rv a1, iv 0, iv 3, .val .null, rv b3] [(.int 0), (.ref a0)])) rfl rfl (hb hby d2_48)
    have N7 := Fr.snoc X7 N4 hge
    have Z7 : n0 ≤ h7.size := Nat.le_trans Zk3 (Nat.le_of_eq W7.size.symm)
    have K7 : Keep h0 h7 [a0] := Kk3.wr W7 (Or.inl (List.mem_of_getElem? (i := 0) rfl))
    have Fw7 := f5.same W7
    have f8 := ((hV.keep K3 nin0).other W7 (Or.inr (slot_ne (Or.inr (hw _ (own_w 16 rfl))) (Or.inr (hw _ (own_w 17 rfl))) (by decide) (t := (.array .byte)) (t' := .byte) (by decide) (by decide))))
    have f9 := (f6.wr W7)
    obtain ⟨T10, h10, X10, e10, W10, st10⟩ := putF X7 hx hZ hown (host := "") (Or.inl (hw _ (own_w 20 rfl))) Via.refl e7 f8 f9 (Or.inr ⟨(hw _ (own_w 16 rfl)), rfl, hnm⟩) (hw _ (own_w 1 rfl)) (ty := (.array .byte)) (by decide) rfl rfl (g := (mkF m 54 #[rv a0, rv a1, iv 0, iv 3, .val .null, rv b3] [(.ref b3), (.ref a0)])) rfl rfl (hb hby d2_54)
    have N10 := Fr.snoc X10 N7 hge
    have Z10 : n0 ≤ h10.size := Nat.le_trans Z7 (Nat.le_of_eq W10.size.symm)
    have K10 : Keep h0 h10 [a0] := K7.wr W10 (Or.inl (List.mem_of_getElem? (i := 0) rfl))
    have Fw10 := f8.same W10
    have S11 : ∀ t, oS p e below T10 (mkF m 57 #[rv a0, rv a1, iv 0, iv 3, .val .null, rv b3] []) t → oS p e below s₁ (mkF m 0 #[rv a0, rv a1, iv 0, iv 3, .val .null, .unset] []) t := fun t k => id (by
      show oS p e below s₁ (mkF m 0 #[rv a0, rv a1, iv 0, iv 3, .val .null, .unset] []) _
      refine XS.aloadN X0.here hx rfl (hb hby d2_0) rfl rfl ?_
      refine st1 _ ?_
      refine XS.iloadN X1.here hx rfl (hb hby d2_4) rfl ?_
      refine XS.ifYes X1.here hx rfl (pc0 := 5) (pc' := 27) rfl (hb hby d2_5) rfl (XT.i0_ne_t (by decide)) (by decide) (by decide) ?_
      refine st2 _ ?_
      refine XS.ifNo X2.here hx rfl (hb hby d2_30) rfl (XT.i0_eq_f hw0) ?_
      refine XS.aloadN X2.here hx rfl (hb hby d2_33) rfl rfl ?_
      refine XS.iloadN X2.here hx rfl (hb hby d2_34) rfl ?_
      refine XS.iloadN X2.here hx rfl (hb hby d2_35) rfl ?_
      refine st3 _ ?_
      refine XS.astore X3.here hx rfl (hb hby d2_39) rfl rfl (l' := #[rv a0, rv a1, iv 0, iv 3, .val .null, rv b3]) rfl ?_
      refine XS.aloadN X3.here hx rfl (hb hby d2_41) rfl rfl ?_
      refine XS.aload X3.here hx rfl (hb hby d2_42) rfl rfl ?_
      refine XS.iloadN X3.here hx rfl (hb hby d2_44) rfl ?_
      refine st4 _ ?_
      show oS p e below T4 (mkF m 48 #[rv a0, rv a1, iv 0, iv 3, .val .null, rv b3] [(.int 0), (.ref a0)]) _
      refine st7 _ ?_
      refine XS.aloadN X7.here hx rfl (hb hby d2_51) rfl rfl ?_
      refine XS.aload X7.here hx rfl (hb hby d2_52) rfl rfl ?_
      refine st10 _ ?_
      exact k)
    obtain ⟨fs, hr, hrun, hended, hW, hsame⟩ := X10.leave (v := none) (fun _ => rfl)
    refine ⟨_, _, pre0 _ (S11 _ ?_), hrun, hended, _, _, rfl, ?_, ⟨_, rfl⟩, hW, hsame.mono (by decide) (by decide)⟩
    · exact X10.returnOut hx Bd.returns (hb hby d2_57) hr
    have f12 := (Fw7.other W10 (Or.inr (slot_ne (Or.inr (hw _ (own_w 17 rfl))) (Or.inr (hw _ (own_w 16 rfl))) (by decide) (t := .byte) (t' := (.array .byte)) (by decide) (by decide))))
    have f13 := ((V3.other W7 (Ne.symm ne_a0_b3)).other W10 (Ne.symm ne_a0_b3))
    · show QrmSi4_3 Z a0 a1 ka wC c0 c1 c2 h0 n0 _ T10.heap _
      rw [e10]
      exact ⟨rfl, N10, K10, Or.inl ⟨b3, _, Fw10, f12, f13, lt0_3, lt1_3, lt2_3⟩⟩
  · have N3 := Fr.app N0 N3q
    have e3 : T3.heap = T3.heap := rfl
    have ne_a0_b3 : a0 ≠ b3 := Nat.ne_of_lt (Nat.lt_of_lt_of_le hE.lt gb3)
    have ne_a1_b3 : a1 ≠ b3 := Nat.ne_of_lt (Nat.lt_of_lt_of_le hA.lt gb3)
    have ge_b3 : n0 ≤ b3 := Nat.le_trans Z0 gb3
    have sz_b3 : h0.size ≤ b3 := gb3
    have Zk3 : n0 ≤ T3.heap.size := Nat.le_trans Z0 K3.1
    have Kk3 : Keep h0 T3.heap [a0] := (Keep.refl h0 [a0]).trans K3 all0
    obtain ⟨_, T14, Lc14, X14, hQ14, st14⟩ := own_callS (W := 1) (y := mN28) X3 hx hZ hown (hw _ (own_w 44 rfl)) (hw _ (own_w 45 rfl)) (hw _ (own_w 39 rfl)) (hw _ (own_w 46 rfl)) (by decide) (rmCd_3_1 l Z av0 hw [] b3 kb3 [(.int (own_lo c0)), (.int (own_hi c0)), (.int (own_lo c1)), (.int (own_hi c1)), (.int (own_lo c2)), (.int (own_hi c2))] T3.heap n0 Zk3 V3) (by decide) (by decide) (g := (mkF m 45 #[rv a0, rv a1, iv 0, iv 3, .val .null, rv b3] [(.int 3), (.ref b3), (.ref a0)])) rfl (by rw [hml]; rfl) (argsL := [(.ref b3), (.int 3)]) (rest := [(.ref a0)]) (lenOf pd__BI_B rfl) rfl (hb hby d2_45) rfl e3 (by decide : 2 + 0 ≤ _) (by decide : 9 + 0 ≤ _)
    obtain ⟨rfl, N14q, hh14⟩ := hQ14
    have N14 := Fr.app N3 N14q
    have e14 : T14.heap = T3.heap := hh14
    have f15 := (hC.keep K3 nin0)
    have f16 := (hE.keep K3)
    obtain ⟨T17, h17, X17, e17, W17, st17⟩ := putFN X14 hx hZ hown (hw _ (own_w 21 rfl)) Via.refl e14 f15 f16 (Or.inr ⟨(hw _ (own_w 17 rfl)), rfl, hnm⟩) (hw _ (own_w 1 rfl)) (ty := .byte) (v' := (.int 1)) (by decide) rfl rfl (g := (mkF m 48 #[rv a0, rv a1, iv 0, iv 3, .val .null, rv b3] [(.int 1), (.ref a0)])) rfl rfl (hb hby d2_48)
    have N17 := Fr.snoc X17 N14 hge
    have Z17 : n0 ≤ h17.size := Nat.le_trans Zk3 (Nat.le_of_eq W17.size.symm)
    have K17 : Keep h0 h17 [a0] := Kk3.wr W17 (Or.inl (List.mem_of_getElem? (i := 0) rfl))
    have Fw17 := f15.same W17
    have f18 := ((hV.keep K3 nin0).other W17 (Or.inr (slot_ne (Or.inr (hw _ (own_w 16 rfl))) (Or.inr (hw _ (own_w 17 rfl))) (by decide) (t := (.array .byte)) (t' := .byte) (by decide) (by decide))))
    have f19 := (f16.wr W17)
    obtain ⟨T20, h20, X20, e20, W20, st20⟩ := putF X17 hx hZ hown (host := "") (Or.inl (hw _ (own_w 20 rfl))) Via.refl e17 f18 f19 (Or.inr ⟨(hw _ (own_w 16 rfl)), rfl, hnm⟩) (hw _ (own_w 1 rfl)) (ty := (.array .byte)) (by decide) rfl rfl (g := (mkF m 54 #[rv a0, rv a1, iv 0, iv 3, .val .null, rv b3] [(.ref b3), (.ref a0)])) rfl rfl (hb hby d2_54)
    have N20 := Fr.snoc X20 N17 hge
    have Z20 : n0 ≤ h20.size := Nat.le_trans Z17 (Nat.le_of_eq W20.size.symm)
    have K20 : Keep h0 h20 [a0] := K17.wr W20 (Or.inl (List.mem_of_getElem? (i := 0) rfl))
    have Fw20 := f18.same W20
    have S21 : ∀ t, oS p e below T20 (mkF m 57 #[rv a0, rv a1, iv 0, iv 3, .val .null, rv b3] []) t → oS p e below s₁ (mkF m 0 #[rv a0, rv a1, iv 0, iv 3, .val .null, .unset] []) t := fun t k => id (by
      show oS p e below s₁ (mkF m 0 #[rv a0, rv a1, iv 0, iv 3, .val .null, .unset] []) _
      refine XS.aloadN X0.here hx rfl (hb hby d2_0) rfl rfl ?_
      refine st1 _ ?_
      refine XS.iloadN X1.here hx rfl (hb hby d2_4) rfl ?_
      refine XS.ifYes X1.here hx rfl (pc0 := 5) (pc' := 27) rfl (hb hby d2_5) rfl (XT.i0_ne_t (by decide)) (by decide) (by decide) ?_
      refine st2 _ ?_
      refine XS.ifNo X2.here hx rfl (hb hby d2_30) rfl (XT.i0_eq_f hw0) ?_
      refine XS.aloadN X2.here hx rfl (hb hby d2_33) rfl rfl ?_
      refine XS.iloadN X2.here hx rfl (hb hby d2_34) rfl ?_
      refine XS.iloadN X2.here hx rfl (hb hby d2_35) rfl ?_
      refine st3 _ ?_
      refine XS.astore X3.here hx rfl (hb hby d2_39) rfl rfl (l' := #[rv a0, rv a1, iv 0, iv 3, .val .null, rv b3]) rfl ?_
      refine XS.aloadN X3.here hx rfl (hb hby d2_41) rfl rfl ?_
      refine XS.aload X3.here hx rfl (hb hby d2_42) rfl rfl ?_
      refine XS.iloadN X3.here hx rfl (hb hby d2_44) rfl ?_
      refine st14 _ ?_
      show oS p e below T14 (mkF m 48 #[rv a0, rv a1, iv 0, iv 3, .val .null, rv b3] [(.int 1), (.ref a0)]) _
      refine st17 _ ?_
      refine XS.aloadN X17.here hx rfl (hb hby d2_51) rfl rfl ?_
      refine XS.aload X17.here hx rfl (hb hby d2_52) rfl rfl ?_
      refine st20 _ ?_
      exact k)
    obtain ⟨fs, hr, hrun, hended, hW, hsame⟩ := X20.leave (v := none) (fun _ => rfl)
    refine ⟨_, _, pre0 _ (S21 _ ?_), hrun, hended, _, _, rfl, ?_, ⟨_, rfl⟩, hW, hsame.mono (by decide) (by decide)⟩
    · exact X20.returnOut hx Bd.returns (hb hby d2_57) hr
    have f22 := (Fw17.other W20 (Or.inr (slot_ne (Or.inr (hw _ (own_w 17 rfl))) (Or.inr (hw _ (own_w 16 rfl))) (by decide) (t := .byte) (t' := (.array .byte)) (by decide) (by decide))))
    have f23 := ((V3.other W17 (Ne.symm ne_a0_b3)).other W20 (Ne.symm ne_a0_b3))
    · show QrmSi4_3 Z a0 a1 ka wC c0 c1 c2 h0 n0 _ T20.heap _
      rw [e20]
      exact ⟨rfl, N20, K20, Or.inr ⟨b3, _, Fw20, f22, f23⟩⟩
def QrmSi2_3 (Z : State) (a0 : Addr) (a1 : Addr) (ka : ClassId) (wC : Int32) (c0 : Int32) (c1 : Int32) (c2 : Int32) (h0 : Heap) (n0 : Nat) (v : Option Value) (h : Heap) (L : List Loc) : Prop := v = none ∧ Fr n0 L ∧ Keep h0 h [a0] ∧ own_St3 Z h a0 c0 c1 c2
set_option maxRecDepth 65536 in
set_option maxHeartbeats 40000000 in
theorem rmSi2_3 (l : Launch) (Z : State) (av0 : Array Value) (hw : ∀ d ∈ tables_1, d.before av0 Z = true) (ws : List Jvm.Cond) (a0 : Addr) (a1 : Addr) (ka : ClassId) (wC : Int32) (c0 : Int32) (c1 : Int32) (c2 : Int32) (h0 : Heap) (n0 : Nat) (Z0 : n0 ≤ h0.size) (hE : Exa Z h0 a0 "java/lang/String") (hV : Fld Z h0 a0 "java/lang/String" "value" "[B" .null) (hC : Fld Z h0 a0 "java/lang/String" "coder" "B" (.int (0 : Int32))) (hge : n0 ≤ a0) (hA : Arv Z h0 a1 ka .char (3 : Int32) [(.int c0), (.int c1), (.int c2)] (.int (0 : Int32))) (hS : Sta Z h0 "java/lang/String" "COMPACT_STRINGS" "Z" (.int wC)) (hw0 : ¬ wC = (0 : Int32)) (hg0 : 0 ≤ c0.toInt ∧ c0.toInt < 65536) (hg1 : 0 ≤ c1.toInt ∧ c1.toInt < 65536) (hg2 : 0 ≤ c2.toInt ∧ c2.toInt < 65536) (sA : Sta Z h0 "java/lang/StringUTF16" "$assertionsDisabled" "Z" (.int (1 : Int32))) (sH : Sta Z h0 "java/lang/StringUTF16" "HI_BYTE_SHIFT" "I" (.int (0 : Int32))) (sL : Sta Z h0 "java/lang/StringUTF16" "LO_BYTE_SHIFT" "I" (.int (8 : Int32))) :
    own_Met l mN4 jdk_42_method_3_code 2 none ws ({ frames := 5, cells := 2, slots := 9, locals := 74 } : Room) #[(.ref a0), (.ref a1)] Z h0 (QrmSi2_3 Z a0 a1 ka wC c0 c1 c2 h0 n0) := by
  refine MetFree.of_bodySF (plainFor_of_name pn_String) hisR ?_
  intro p e s m args below meth c s₁ Bd hml0 hP hK
  obtain ⟨rfl, hZ, hh⟩ := hP
  have hml : c.maxLocals = 2 := hml0
  obtain ⟨hx, hby, hown, hnm, X0, e0⟩ := own_start Bd hml0 hh
  have N0 := Fr.nil n0
  have pre0 : ∀ t, oS p e below s₁ (mkF m 0 #[rv a0, rv a1] []) t → Steps p.tables e below (s₁.setTop (entryFrame m #[(.ref a0), (.ref a1)] 2)) t := fun t k => castTop (by first | (simp [entryFrame, mkF, argsToLocals, Value.category]; done) | rfl) k
  obtain ⟨cl1, Ar1, qk1, Sz1, Ng1, Hs1, Gs1⟩ := id hA
  obtain ⟨_, T2, Lc2, X2, hQ2, st2⟩ := own_special (W := 0) (y := mN3) X0 hx hZ rfl hown (hw _ (own_w 7 rfl)) (hw _ (own_w 8 rfl)) (hw _ (own_w 10 rfl)) (hw _ (own_w 2 rfl)) (by decide) (rmSi4_3 l Z av0 hw [] a0 a1 ka wC c0 c1 c2 h0 n0 Z0 hE hV hC hge hA hS hw0 hg0 hg1 hg2 sA sH sL) (by decide) (by decide) (g := (mkF m 6 #[rv a0, rv a1] [.null, (.int 3), (.int 0), (.ref a1), (.ref a0)])) rfl (by rw [hml]; rfl) (a := a0) (argsL := [(.ref a1), (.int 0), (.int 3), .null]) (rest := []) (lenOf pd__CIILjava_lang_Void_V rfl) rfl (hb hby d1_6) rfl e0 (by decide : 0 + 2 ≤ _) (by decide : 0 + 9 ≤ _)
  obtain ⟨rfl, N2q, K2, St2⟩ := hQ2
  have N2 := Fr.app N0 N2q
  have e2 : T2.heap = T2.heap := rfl
  have Zk2 : n0 ≤ T2.heap.size := Nat.le_trans Z0 K2.1
  have Kk2 : Keep h0 T2.heap [a0] := (Keep.refl h0 [a0]).trans K2 (allS (Or.inl (List.mem_of_getElem? (i := 0) rfl)) all0)
  have S3 : ∀ t, oS p e below T2 (mkF m 9 #[rv a0, rv a1] []) t → oS p e below s₁ (mkF m 0 #[rv a0, rv a1] []) t := fun t k => id (by
    show oS p e below s₁ (mkF m 0 #[rv a0, rv a1] []) _
    refine XS.aloadN X0.here hx rfl (hb hby d1_0) rfl rfl ?_
    refine XS.aloadN X0.here hx rfl (hb hby d1_1) rfl rfl ?_
    refine XT.iconstV X0.here hx rfl (0 : Int32) (hb hby d1_2) (by decide) ?_
    refine XS.aloadN X0.here hx rfl (hb hby d1_3) rfl rfl ?_
    refine X0.arraylength hx (by rw [e0]; exact Ar1.1) (State.isArrayOf_alike hZ.alike Ar1.2.1) (g := (mkF m 4 #[rv a0, rv a1] [(.ref a1), (.int 0), (.ref a1), (.ref a0)])) rfl rfl (hb hby d1_4) _ ?_
    rw [len_of Sz1 Ng1]
    refine XS.aconstNull X0.here hx rfl (hb hby d1_5) ?_
    refine st2 _ ?_
    exact k)
  obtain ⟨fs, hr, hrun, hended, hW, hsame⟩ := X2.leave (v := none) (fun _ => rfl)
  refine ⟨_, _, pre0 _ (S3 _ ?_), hrun, hended, _, _, rfl, ?_, ⟨_, rfl⟩, hW, hsame.mono (by decide) (by decide)⟩
  · exact X2.returnOut hx Bd.returns (hb hby d1_9) hr
  · show QrmSi2_3 Z a0 a1 ka wC c0 c1 c2 h0 n0 _ T2.heap _
    rw [e2]
    exact ⟨rfl, N2, Kk2, St2⟩
theorem pd__C_V : parseMethodDescriptor "([C)V" = some ⟨[(.array .char)], none⟩ := by decide +kernel
theorem pd__C_Ljava_lang_String_ : parseMethodDescriptor "(C)Ljava/lang/String;" = some ⟨[.char], some (.object "java/lang/String")⟩ := by decide +kernel
theorem pd__Ljava_lang_String_Z : parseMethodDescriptor "(Ljava/lang/String;)Z" = some ⟨[(.object "java/lang/String")], some .boolean⟩ := by decide +kernel
def Qrm0 (Z : State) (p0 : Int32) (p1 : Int32) (p2 : Int32) (wC : Int32) (fm : Value) (h0 : Heap) (n0 : Nat) (v : Option Value) (h : Heap) (L : List Loc) : Prop := v = some (.int 1) ∧ Fr n0 L
set_option maxRecDepth 65536 in
set_option maxHeartbeats 40000000 in
theorem rm0 (l : Launch) (Z : State) (av0 : Array Value) (hw : ∀ d ∈ tables_1, d.before av0 Z = true) (ws : List Jvm.Cond) (p0 : Int32) (p1 : Int32) (p2 : Int32) (wC : Int32) (fm : Value) (h0 : Heap) (n0 : Nat) (Z0 : n0 ≤ h0.size) (hS : Sta Z h0 "java/lang/String" "COMPACT_STRINGS" "Z" (.int wC)) (hw0 : ¬ wC = (0 : Int32)) (hfm : fm.isRef = true) (hF : Sta Z h0 "jdk/internal/util/Preconditions" "SIOOBE_FORMATTER" "Ljava/util/function/BiFunction;" fm) (sA : Sta Z h0 "java/lang/StringUTF16" "$assertionsDisabled" "Z" (.int (1 : Int32))) (sH : Sta Z h0 "java/lang/StringUTF16" "HI_BYTE_SHIFT" "I" (.int (0 : Int32))) (sL : Sta Z h0 "java/lang/StringUTF16" "LO_BYTE_SHIFT" "I" (.int (8 : Int32))) (hkp : ∀ (b : Addr) (cl : Cell), Z.heap[b]? = some cl → h0[b]? = some cl) (hcH : Jvm.Lit.constHeld Z "java/lang/String" 7) (hcw : Jvm.Lit.compactW.before av0 Z = true) :
    MetFree l x (head1 (Jvm.Cond.code x code maxLocals ret :: ws) room_1) (fun aU U => aU = #[(.int p0), (.int p1), (.int p2)] ∧ Z.Warmed39 U.vm ∧ U.heap = h0 ∧ IB Z U.vm []) (fun _ _ _ _ _ => True) (fun _ U oU U' => ∃ vU LU, oU = .returned vU ∧ Qrm0 Z p0 p1 p2 wC fm h0 n0 vU U'.heap LU ∧ ReturnedEndW U oU U' LU room_1.cells room_1.slots) := by
  refine MetFree.of_bodySF (plainFor_of_name pn_HttpFieldsIsFieldValuePinLaw) hisR ?_
  intro p e s m args below meth c s₁ Bd hml0 hP hK
  obtain ⟨rfl, hZ, hh, hI⟩ := hP
  have hml : c.maxLocals = 17 := hml0
  obtain ⟨hx, hby, hown, hnm, X0, e0⟩ := own_start Bd hml0 hh
  have N0 := Fr.nil n0
  have pre0 : ∀ t, oS p e below s₁ (mkF m 0 #[iv p0, iv p1, iv p2, .unset, .unset, .unset, .unset, .unset, .unset, .unset, .unset, .unset, .unset, .unset, .unset, .unset, .unset] []) t → Steps p.tables e below (s₁.setTop (entryFrame m #[(.int p0), (.int p1), (.int p2)] maxLocals)) t := fun t k => castTop (by first | (simp [entryFrame, mkF, argsToLocals, Value.category, maxLocals]; done) | rfl) k
  obtain ⟨T1, h1, X1, e1, E1, A1, D1, -, st1⟩ := newO X0 hx hZ hown (hw _ (own_w 0 rfl)) (hw _ (own_w 1 rfl)) (hw _ (own_w 2 rfl)) e0 (g := (mkF m 11 #[iv p0, iv p1, iv p2, iv (own_c p0), iv (own_c p1), iv (own_c p2), .unset, .unset, .unset, .unset, .unset, .unset, .unset, .unset, .unset, .unset, .unset] [])) rfl (hb hby at_11) (by decide) (by decide)
  obtain ⟨b1, g1⟩ : ∃ z, z = h0.size := ⟨_, rfl⟩
  rw [← g1] at A1 D1 st1
  have ge_b1 : n0 ≤ b1 := Nat.le_trans Z0 (Nat.le_of_eq g1.symm)
  have sz_b1 : h0.size ≤ b1 := Nat.le_of_eq g1.symm
  have Z1 : n0 ≤ h1.size := Nat.le_trans Z0 E1.1
  have K1 : Keep h0 h1 [] := (Keep.refl h0 []).ext E1
  have F1_value : Fld Z h1 b1 "java/lang/String" "value" "[B" .null := D1 (Or.inr (hw _ (own_w 16 rfl))) (ty := (.array .byte)) (by decide)
  have F1_coder : Fld Z h1 b1 "java/lang/String" "coder" "B" (.int 0) := D1 (Or.inr (hw _ (own_w 17 rfl))) (ty := .byte) (by decide)
  obtain ⟨T2, h2, k2, X2, e2, E2, A2, st2⟩ := newP X1 hx hZ (hw _ (own_w 3 rfl)) e1 (g := (mkF m 16 #[iv p0, iv p1, iv p2, iv (own_c p0), iv (own_c p1), iv (own_c p2), .unset, .unset, .unset, .unset, .unset, .unset, .unset, .unset, .unset, .unset, .unset] [(.int 0), (.ref b1), (.ref b1)])) rfl (hb hby at_16) rfl (by decide) (cap := 0) (by decide) (by decide) (by decide) (by decide)
  obtain ⟨b2, g2⟩ : ∃ z, z = h1.size := ⟨_, rfl⟩
  rw [← g2] at A2 st2
  have ne_b1_b2 : b1 ≠ b2 := Nat.ne_of_lt (Nat.lt_of_lt_of_le A1.lt (Nat.le_of_eq g2.symm))
  have ge_b2 : n0 ≤ b2 := Nat.le_trans Z1 (Nat.le_of_eq g2.symm)
  have sz_b2 : h0.size ≤ b2 := Nat.le_trans K1.1 (Nat.le_of_eq g2.symm)
  have Z2 : n0 ≤ h2.size := Nat.le_trans Z1 E2.1
  have K2 : Keep h0 h2 [] := K1.ext E2
  have V2 : Arv Z h2 b2 k2 .char (0 : Int32) [] (.int (0 : Int32)) := Arv.new A2 (by decide)
  have f3 := (A1.ext E2)
  have f4 := (F1_value.ext E2)
  have f5 := (F1_coder.ext E2)
  have S7 : ∀ t, oS p e below T2 (mkF m 18 #[iv p0, iv p1, iv p2, iv (own_c p0), iv (own_c p1), iv (own_c p2), .unset, .unset, .unset, .unset, .unset, .unset, .unset, .unset, .unset, .unset, .unset] [(.ref b2), (.ref b1), (.ref b1)]) t → oS p e below s₁ (mkF m 0 #[iv p0, iv p1, iv p2, .unset, .unset, .unset, .unset, .unset, .unset, .unset, .unset, .unset, .unset, .unset, .unset, .unset, .unset] []) t := fun t k => id (by
    show oS p e below s₁ (mkF m 0 #[iv p0, iv p1, iv p2, .unset, .unset, .unset, .unset, .unset, .unset, .unset, .unset, .unset, .unset, .unset, .unset, .unset, .unset] []) _
    refine XS.iloadN X0.here hx rfl (hb hby at_0) rfl ?_
    refine XT.i2c X0.here hx rfl (hb hby at_1) rfl ?_
    show oS p e below s₁ (mkF m 2 #[iv p0, iv p1, iv p2, .unset, .unset, .unset, .unset, .unset, .unset, .unset, .unset, .unset, .unset, .unset, .unset, .unset, .unset] [(.int (p0).toUInt32.toUInt16.toUInt32.toInt32)]) _
    skip
    show oS p e below s₁ (mkF m 2 #[iv p0, iv p1, iv p2, .unset, .unset, .unset, .unset, .unset, .unset, .unset, .unset, .unset, .unset, .unset, .unset, .unset, .unset] [(.int (own_c p0))]) _
    refine XS.istoreN X0.here hx rfl (hb hby at_2) rfl (l' := #[iv p0, iv p1, iv p2, iv (own_c p0), .unset, .unset, .unset, .unset, .unset, .unset, .unset, .unset, .unset, .unset, .unset, .unset, .unset]) rfl ?_
    refine XS.iloadN X0.here hx rfl (hb hby at_3) rfl ?_
    refine XT.i2c X0.here hx rfl (hb hby at_4) rfl ?_
    show oS p e below s₁ (mkF m 5 #[iv p0, iv p1, iv p2, iv (own_c p0), .unset, .unset, .unset, .unset, .unset, .unset, .unset, .unset, .unset, .unset, .unset, .unset, .unset] [(.int (p1).toUInt32.toUInt16.toUInt32.toInt32)]) _
    skip
    show oS p e below s₁ (mkF m 5 #[iv p0, iv p1, iv p2, iv (own_c p0), .unset, .unset, .unset, .unset, .unset, .unset, .unset, .unset, .unset, .unset, .unset, .unset, .unset] [(.int (own_c p1))]) _
    refine XS.istore X0.here hx rfl (hb hby at_5) rfl (l' := #[iv p0, iv p1, iv p2, iv (own_c p0), iv (own_c p1), .unset, .unset, .unset, .unset, .unset, .unset, .unset, .unset, .unset, .unset, .unset, .unset]) rfl ?_
    refine XS.iloadN X0.here hx rfl (hb hby at_7) rfl ?_
    refine XT.i2c X0.here hx rfl (hb hby at_8) rfl ?_
    show oS p e below s₁ (mkF m 9 #[iv p0, iv p1, iv p2, iv (own_c p0), iv (own_c p1), .unset, .unset, .unset, .unset, .unset, .unset, .unset, .unset, .unset, .unset, .unset, .unset] [(.int (p2).toUInt32.toUInt16.toUInt32.toInt32)]) _
    skip
    show oS p e below s₁ (mkF m 9 #[iv p0, iv p1, iv p2, iv (own_c p0), iv (own_c p1), .unset, .unset, .unset, .unset, .unset, .unset, .unset, .unset, .unset, .unset, .unset, .unset] [(.int (own_c p2))]) _
    refine XS.istore X0.here hx rfl (hb hby at_9) rfl (l' := #[iv p0, iv p1, iv p2, iv (own_c p0), iv (own_c p1), iv (own_c p2), .unset, .unset, .unset, .unset, .unset, .unset, .unset, .unset, .unset, .unset, .unset]) rfl ?_
    refine st1 _ ?_
    refine XS.dup X1.here hx rfl (hb hby at_14) rfl rfl ?_
    refine XT.iconstV X1.here hx rfl (0 : Int32) (hb hby at_15) (by decide) ?_
    show oS p e below T1 (mkF m 16 #[iv p0, iv p1, iv p2, iv (own_c p0), iv (own_c p1), iv (own_c p2), .unset, .unset, .unset, .unset, .unset, .unset, .unset, .unset, .unset, .unset, .unset] [(.int 0), (.ref b1), (.ref b1)]) _
    refine st2 _ ?_
    exact k)
  obtain ⟨_, T6, Lc6, X6, hS6, hQ6, st6⟩ := own_specialI (W := 1) (y := mN4) X2 hx hZ rfl hown (hw _ (own_w 4 rfl)) (hw _ (own_w 5 rfl)) (hw _ (own_w 6 rfl)) (hw _ (own_w 2 rfl)) (by decide) (rmSi2_e l Z av0 hw [] b1 b2 k2 h2 n0 Z2 f3 f4 f5 ge_b1 V2 (fun b cl q => K2.2.1 b cl (hkp b cl q) nin0) hcH hcw) (by decide) (by decide) hI (g := (mkF m 18 #[iv p0, iv p1, iv p2, iv (own_c p0), iv (own_c p1), iv (own_c p2), .unset, .unset, .unset, .unset, .unset, .unset, .unset, .unset, .unset, .unset, .unset] [(.ref b2), (.ref b1), (.ref b1)])) rfl (by rw [hml]; rfl) (a := b1) (argsL := [(.ref b2)]) (rest := [(.ref b1)]) (lenOf pd__C_V rfl) rfl (hb hby at_18) rfl e2 (by decide : 2 + 2 ≤ _) (by decide : 4 + 4 ≤ _)
  have hZ := State.Warmed39.trans (t := s) hZ hS6.1
  have hown : (s.setVm T6.vm).vm.findClass x.cls = some m.cls := by rw [show (s.setVm T6.vm).vm = T6.vm from rfl, hS6.1.alike.findClass]; exact hown
  obtain ⟨rfl, N6q, K6, FC6, b6, kb6, FV6, V6⟩ := hQ6
  have N6 := Fr.app N0 N6q
  have e6 : T6.heap = T6.heap := rfl
  have Zk6 : n0 ≤ T6.heap.size := Nat.le_trans Z2 K6.1
  have Kk6 : Keep h0 T6.heap [] := K2.trans K6 (allS (Or.inr sz_b1) all0)
  have f8 := (f3.keep K6)
  have ne_b1_b6 : b1 ≠ b6 := f8.neArv V6 (hw _ (own_w 1 rfl))
  have f9 := (own_stak ((hS.ext E1).ext E2) K6 (allS (own_exns f3) all0))
  have f10 := (own_stak ((sA.ext E1).ext E2) K6 (allS (own_exns f3) all0))
  have f11 := (own_stak ((sH.ext E1).ext E2) K6 (allS (own_exns f3) all0))
  have f12 := (own_stak ((sL.ext E1).ext E2) K6 (allS (own_exns f3) all0))
  obtain ⟨_, T13, Lc13, X13, hQ13, st13⟩ := own_callS (W := 0) (y := mN22) X6 hx hZ hown (hw _ (own_w 22 rfl)) (hw _ (own_w 23 rfl)) (hw _ (own_w 2 rfl)) (hw _ (own_w 24 rfl)) (by decide) (rmVo l Z av0 hw [] (own_c p0) wC T6.heap n0 Zk6 f9 hw0 f10 f11 f12) (by decide) (by decide) (g := (mkF m 24 #[iv p0, iv p1, iv p2, iv (own_c p0), iv (own_c p1), iv (own_c p2), rv b1, .unset, .unset, .unset, .unset, .unset, .unset, .unset, .unset, .unset, .unset] [(.int (own_c p0))])) rfl (by rw [hml]; rfl) (argsL := [(.int (own_c p0))]) (rest := []) (lenOf pd__C_Ljava_lang_String_ rfl) rfl (hb hby at_24) rfl e6 (by decide : 4 + 2 ≤ _) (by decide : 8 + 6 ≤ _)
  obtain ⟨as13, rfl, N13q, ga13, K13, Ea13, St13⟩ := hQ13
  have N13 := Fr.app N6 N13q
  have e13 : T13.heap = T13.heap := rfl
  have ne_b1_as13 : b1 ≠ as13 := Nat.ne_of_lt (Nat.lt_of_lt_of_le f8.lt ga13)
  have f14 := (V2.keep K6 (ninS (Ne.symm ne_b1_b2) nin0))
  have ne_b2_as13 : b2 ≠ as13 := Nat.ne_of_lt (Nat.lt_of_lt_of_le f14.lt ga13)
  have ne_b6_as13 : b6 ≠ as13 := Nat.ne_of_lt (Nat.lt_of_lt_of_le V6.lt ga13)
  have ge_as13 : n0 ≤ as13 := Nat.le_trans Zk6 ga13
  have sz_as13 : h0.size ≤ as13 := Nat.le_trans Kk6.1 ga13
  have Zk13 : n0 ≤ T13.heap.size := Nat.le_trans Zk6 K13.1
  have Kk13 : Keep h0 T13.heap [] := Kk6.trans K13 all0
  obtain ⟨T15, h15, X15, e15, E15, A15, D15, -, st15⟩ := newO X13 hx hZ hown (hw _ (own_w 0 rfl)) (hw _ (own_w 1 rfl)) (hw _ (own_w 2 rfl)) e13 (g := (mkF m 29 #[iv p0, iv p1, iv p2, iv (own_c p0), iv (own_c p1), iv (own_c p2), rv b1, rv as13, .unset, .unset, .unset, .unset, .unset, .unset, .unset, .unset, .unset] [])) rfl (hb hby at_29) (by decide) (by decide)
  obtain ⟨b15, g15⟩ : ∃ z, z = T13.heap.size := ⟨_, rfl⟩
  rw [← g15] at A15 D15 st15
  have ne_as13_b15 : as13 ≠ b15 := Nat.ne_of_lt (Nat.lt_of_lt_of_le Ea13.lt (Nat.le_of_eq g15.symm))
  have f16 := (f8.keep K13)
  have ne_b1_b15 : b1 ≠ b15 := Nat.ne_of_lt (Nat.lt_of_lt_of_le f16.lt (Nat.le_of_eq g15.symm))
  have f17 := (f14.keep K13 nin0)
  have ne_b2_b15 : b2 ≠ b15 := Nat.ne_of_lt (Nat.lt_of_lt_of_le f17.lt (Nat.le_of_eq g15.symm))
  have f18 := (V6.keep K13 nin0)
  have ne_b6_b15 : b6 ≠ b15 := Nat.ne_of_lt (Nat.lt_of_lt_of_le f18.lt (Nat.le_of_eq g15.symm))
  have ge_b15 : n0 ≤ b15 := Nat.le_trans Zk13 (Nat.le_of_eq g15.symm)
  have sz_b15 : h0.size ≤ b15 := Nat.le_trans Kk13.1 (Nat.le_of_eq g15.symm)
  have Z15 : n0 ≤ h15.size := Nat.le_trans Zk13 E15.1
  have K15 : Keep h0 h15 [] := Kk13.ext E15
  have F15_value : Fld Z h15 b15 "java/lang/String" "value" "[B" .null := D15 (Or.inr (hw _ (own_w 16 rfl))) (ty := (.array .byte)) (by decide)
  have F15_coder : Fld Z h15 b15 "java/lang/String" "coder" "B" (.int 0) := D15 (Or.inr (hw _ (own_w 17 rfl))) (ty := .byte) (by decide)
  obtain ⟨T19, h19, k19, X19, e19, E19, A19, st19⟩ := newP X15 hx hZ (hw _ (own_w 3 rfl)) e15 (g := (mkF m 34 #[iv p0, iv p1, iv p2, iv (own_c p0), iv (own_c p1), iv (own_c p2), rv b1, rv as13, .unset, .unset, .unset, .unset, .unset, .unset, .unset, .unset, .unset] [(.int 2), (.ref b15), (.ref b15)])) rfl (hb hby at_34) rfl (by decide) (cap := 2) (by decide) (by decide) (by decide) (by decide)
  obtain ⟨b19, g19⟩ : ∃ z, z = h15.size := ⟨_, rfl⟩
  rw [← g19] at A19 st19
  have f20 := (Ea13.ext E15)
  have ne_as13_b19 : as13 ≠ b19 := Nat.ne_of_lt (Nat.lt_of_lt_of_le f20.lt (Nat.le_of_eq g19.symm))
  have f21 := (f16.ext E15)
  have ne_b1_b19 : b1 ≠ b19 := Nat.ne_of_lt (Nat.lt_of_lt_of_le f21.lt (Nat.le_of_eq g19.symm))
  have ne_b15_b19 : b15 ≠ b19 := Nat.ne_of_lt (Nat.lt_of_lt_of_le A15.lt (Nat.le_of_eq g19.symm))
  have f22 := (f17.ext E15)
  have ne_b2_b19 : b2 ≠ b19 := Nat.ne_of_lt (Nat.lt_of_lt_of_le f22.lt (Nat.le_of_eq g19.symm))
  have f23 := (f18.ext E15)
  have ne_b6_b19 : b6 ≠ b19 := Nat.ne_of_lt (Nat.lt_of_lt_of_le f23.lt (Nat.le_of_eq g19.symm))
  have ge_b19 : n0 ≤ b19 := Nat.le_trans Z15 (Nat.le_of_eq g19.symm)
  have sz_b19 : h0.size ≤ b19 := Nat.le_trans K15.1 (Nat.le_of_eq g19.symm)
  have Z19 : n0 ≤ h19.size := Nat.le_trans Z15 E19.1
  have K19 : Keep h0 h19 [] := K15.ext E19
  have V19 : Arv Z h19 b19 k19 .char (2 : Int32) [(.int (0 : Int32)), (.int (0 : Int32))] (.int (0 : Int32)) := (Arv.new A19 (by decide)).pad (pad_rep [] (.int (0 : Int32)) 2)
  obtain ⟨cl24, Ar24, qk24, Sz24, Ng24, Hs24, Gs24⟩ := id V19
  have hin24 : ¬ ((0 : Int32) < 0 ∨ cl24.slots.size ≤ ((0 : Int32)).toNatClampNeg) := inb_of Sz24 ⟨by decide, by decide⟩
  obtain ⟨T25, h25, X25, e25, W25, st25⟩ := stC X19 hx hZ e19 Ar24 (j := (0 : Int32)) hin24 (g := (mkF m 39 #[iv p0, iv p1, iv p2, iv (own_c p0), iv (own_c p1), iv (own_c p2), rv b1, rv as13, .unset, .unset, .unset, .unset, .unset, .unset, .unset, .unset, .unset] [(.int (own_c p0)), (.int 0), (.ref b19), (.ref b19), (.ref b15), (.ref b15)])) rfl rfl (hb hby at_39)
  have N25 := Fr.snoc X25 N13 ge_b19
  have Z25 : n0 ≤ h25.size := Nat.le_trans Z19 (Nat.le_of_eq W25.size.symm)
  have K25 : Keep h0 h25 [] := K19.wr W25 (Or.inr sz_b19)
  rw [own_nc] at W25
  have V25 : Arv Z h25 b19 k19 .char (2 : Int32) [(.int (own_c p0)), (.int (0 : Int32))] (.int (0 : Int32)) := Arv.set Ar24 qk24 Sz24 Ng24 Hs24 Gs24 (own_fc _) W25 0 rfl (Nat.le_of_ble_eq_true rfl)
  obtain ⟨cl26, Ar26, qk26, Sz26, Ng26, Hs26, Gs26⟩ := id V25
  have hin26 : ¬ ((1 : Int32) < 0 ∨ cl26.slots.size ≤ ((1 : Int32)).toNatClampNeg) := inb_of Sz26 ⟨by decide, by decide⟩
  obtain ⟨T27, h27, X27, e27, W27, st27⟩ := stC X25 hx hZ e25 Ar26 (j := (1 : Int32)) hin26 (g := (mkF m 44 #[iv p0, iv p1, iv p2, iv (own_c p0), iv (own_c p1), iv (own_c p2), rv b1, rv as13, .unset, .unset, .unset, .unset, .unset, .unset, .unset, .unset, .unset] [(.int (own_c p1)), (.int 1), (.ref b19), (.ref b19), (.ref b15), (.ref b15)])) rfl rfl (hb hby at_44)
  have N27 := Fr.snoc X27 N25 ge_b19
  have Z27 : n0 ≤ h27.size := Nat.le_trans Z25 (Nat.le_of_eq W27.size.symm)
  have K27 : Keep h0 h27 [] := K25.wr W27 (Or.inr sz_b19)
  rw [own_nc] at W27
  have V27 : Arv Z h27 b19 k19 .char (2 : Int32) [(.int (own_c p0)), (.int (own_c p1))] (.int (0 : Int32)) := Arv.set Ar26 qk26 Sz26 Ng26 Hs26 Gs26 (own_fc _) W27 1 rfl (Nat.le_of_ble_eq_true rfl)
  have f28 := (((A15.ext E19).wr W25).wr W27)
  have f29 := (((F15_value.ext E19).other W25 (Or.inl ne_b15_b19)).other W27 (Or.inl ne_b15_b19))
  have f30 := (((F15_coder.ext E19).other W25 (Or.inl ne_b15_b19)).other W27 (Or.inl ne_b15_b19))
  have f31 := (((((own_stak f9 K13 all0).ext E15).ext E19).wr W25).wr W27)
  have f32 := (((((own_stak f10 K13 all0).ext E15).ext E19).wr W25).wr W27)
  have f33 := (((((own_stak f11 K13 all0).ext E15).ext E19).wr W25).wr W27)
  have f34 := (((((own_stak f12 K13 all0).ext E15).ext E19).wr W25).wr W27)
  obtain ⟨_, T35, Lc35, X35, hQ35, st35⟩ := own_special (W := 1) (y := mN4) X27 hx hZ rfl hown (hw _ (own_w 4 rfl)) (hw _ (own_w 5 rfl)) (hw _ (own_w 6 rfl)) (hw _ (own_w 2 rfl)) (by decide) (rmSi2_2 l Z av0 hw [] b15 b19 k19 wC (own_c p0) (own_c p1) h27 n0 Z27 f28 f29 f30 ge_b15 V27 f31 hw0 (own_cr p0) (own_cr p1) f32 f33 f34) (by decide) (by decide) (g := (mkF m 45 #[iv p0, iv p1, iv p2, iv (own_c p0), iv (own_c p1), iv (own_c p2), rv b1, rv as13, .unset, .unset, .unset, .unset, .unset, .unset, .unset, .unset, .unset] [(.ref b19), (.ref b15), (.ref b15)])) rfl (by rw [hml]; rfl) (a := b15) (argsL := [(.ref b19)]) (rest := [(.ref b15)]) (lenOf pd__C_V rfl) rfl (hb hby at_45) rfl e27 (by decide : 8 + 2 ≤ _) (by decide : 20 + 6 ≤ _)
  obtain ⟨rfl, N35q, K35, St35⟩ := hQ35
  have N35 := Fr.app N27 N35q
  have e35 : T35.heap = T35.heap := rfl
  have Zk35 : n0 ≤ T35.heap.size := Nat.le_trans Z27 K35.1
  have Kk35 : Keep h0 T35.heap [] := K27.trans K35 (allS (Or.inr sz_b15) all0)
  obtain ⟨T36, h36, X36, e36, E36, A36, D36, -, st36⟩ := newO X35 hx hZ hown (hw _ (own_w 0 rfl)) (hw _ (own_w 1 rfl)) (hw _ (own_w 2 rfl)) e35 (g := (mkF m 50 #[iv p0, iv p1, iv p2, iv (own_c p0), iv (own_c p1), iv (own_c p2), rv b1, rv as13, rv b15, .unset, .unset, .unset, .unset, .unset, .unset, .unset, .unset] [])) rfl (hb hby at_50) (by decide) (by decide)
  obtain ⟨b36, g36⟩ : ∃ z, z = T35.heap.size := ⟨_, rfl⟩
  rw [← g36] at A36 D36 st36
  have f37 := ((((f20.ext E19).wr W25).wr W27).keep K35)
  have ne_as13_b36 : as13 ≠ b36 := Nat.ne_of_lt (Nat.lt_of_lt_of_le f37.lt (Nat.le_of_eq g36.symm))
  have f38 := ((((f21.ext E19).wr W25).wr W27).keep K35)
  have ne_b1_b36 : b1 ≠ b36 := Nat.ne_of_lt (Nat.lt_of_lt_of_le f38.lt (Nat.le_of_eq g36.symm))
  have f39 := (f28.keep K35)
  have ne_b15_b36 : b15 ≠ b36 := Nat.ne_of_lt (Nat.lt_of_lt_of_le f39.lt (Nat.le_of_eq g36.symm))
  have f40 := (V27.keep K35 (ninS (Ne.symm ne_b15_b19) nin0))
  have ne_b19_b36 : b19 ≠ b36 := Nat.ne_of_lt (Nat.lt_of_lt_of_le f40.lt (Nat.le_of_eq g36.symm))
  have f41 := ((((f22.ext E19).other W25 ne_b2_b19).other W27 ne_b2_b19).keep K35 (ninS ne_b2_b15 nin0))
  have ne_b2_b36 : b2 ≠ b36 := Nat.ne_of_lt (Nat.lt_of_lt_of_le f41.lt (Nat.le_of_eq g36.symm))
  have f42 := ((((f23.ext E19).other W25 ne_b6_b19).other W27 ne_b6_b19).keep K35 (ninS ne_b6_b15 nin0))
  have ne_b6_b36 : b6 ≠ b36 := Nat.ne_of_lt (Nat.lt_of_lt_of_le f42.lt (Nat.le_of_eq g36.symm))
  have ge_b36 : n0 ≤ b36 := Nat.le_trans Zk35 (Nat.le_of_eq g36.symm)
  have sz_b36 : h0.size ≤ b36 := Nat.le_trans Kk35.1 (Nat.le_of_eq g36.symm)
  have Z36 : n0 ≤ h36.size := Nat.le_trans Zk35 E36.1
  have K36 : Keep h0 h36 [] := Kk35.ext E36
  have F36_value : Fld Z h36 b36 "java/lang/String" "value" "[B" .null := D36 (Or.inr (hw _ (own_w 16 rfl))) (ty := (.array .byte)) (by decide)
  have F36_coder : Fld Z h36 b36 "java/lang/String" "coder" "B" (.int 0) := D36 (Or.inr (hw _ (own_w 17 rfl))) (ty := .byte) (by decide)
  obtain ⟨T43, h43, k43, X43, e43, E43, A43, st43⟩ := newP X36 hx hZ (hw _ (own_w 3 rfl)) e36 (g := (mkF m 55 #[iv p0, iv p1, iv p2, iv (own_c p0), iv (own_c p1), iv (own_c p2), rv b1, rv as13, rv b15, .unset, .unset, .unset, .unset, .unset, .unset, .unset, .unset] [(.int 3), (.ref b36), (.ref b36)])) rfl (hb hby at_55) rfl (by decide) (cap := 3) (by decide) (by decide) (by decide) (by decide)
  obtain ⟨b43, g43⟩ : ∃ z, z = h36.size := ⟨_, rfl⟩
  rw [← g43] at A43 st43
  have f44 := (f37.ext E36)
  have ne_as13_b43 : as13 ≠ b43 := Nat.ne_of_lt (Nat.lt_of_lt_of_le f44.lt (Nat.le_of_eq g43.symm))
  have f45 := (f38.ext E36)
  have ne_b1_b43 : b1 ≠ b43 := Nat.ne_of_lt (Nat.lt_of_lt_of_le f45.lt (Nat.le_of_eq g43.symm))
  have f46 := (f39.ext E36)
  have ne_b15_b43 : b15 ≠ b43 := Nat.ne_of_lt (Nat.lt_of_lt_of_le f46.lt (Nat.le_of_eq g43.symm))
  have f47 := (f40.ext E36)
  have ne_b19_b43 : b19 ≠ b43 := Nat.ne_of_lt (Nat.lt_of_lt_of_le f47.lt (Nat.le_of_eq g43.symm))
  have f48 := (f41.ext E36)
  have ne_b2_b43 : b2 ≠ b43 := Nat.ne_of_lt (Nat.lt_of_lt_of_le f48.lt (Nat.le_of_eq g43.symm))
  have ne_b36_b43 : b36 ≠ b43 := Nat.ne_of_lt (Nat.lt_of_lt_of_le A36.lt (Nat.le_of_eq g43.symm))
  have f49 := (f42.ext E36)
  have ne_b6_b43 : b6 ≠ b43 := Nat.ne_of_lt (Nat.lt_of_lt_of_le f49.lt (Nat.le_of_eq g43.symm))
  have ge_b43 : n0 ≤ b43 := Nat.le_trans Z36 (Nat.le_of_eq g43.symm)
  have sz_b43 : h0.size ≤ b43 := Nat.le_trans K36.1 (Nat.le_of_eq g43.symm)
  have Z43 : n0 ≤ h43.size := Nat.le_trans Z36 E43.1
  have K43 : Keep h0 h43 [] := K36.ext E43
  have V43 : Arv Z h43 b43 k43 .char (3 : Int32) [(.int (0 : Int32)), (.int (0 : Int32)), (.int (0 : Int32))] (.int (0 : Int32)) := (Arv.new A43 (by decide)).pad (pad_rep [] (.int (0 : Int32)) 3)
  obtain ⟨cl50, Ar50, qk50, Sz50, Ng50, Hs50, Gs50⟩ := id V43
  have hin50 : ¬ ((0 : Int32) < 0 ∨ cl50.slots.size ≤ ((0 : Int32)).toNatClampNeg) := inb_of Sz50 ⟨by decide, by decide⟩
  obtain ⟨T51, h51, X51, e51, W51, st51⟩ := stC X43 hx hZ e43 Ar50 (j := (0 : Int32)) hin50 (g := (mkF m 60 #[iv p0, iv p1, iv p2, iv (own_c p0), iv (own_c p1), iv (own_c p2), rv b1, rv as13, rv b15, .unset, .unset, .unset, .unset, .unset, .unset, .unset, .unset] [(.int (own_c p0)), (.int 0), (.ref b43), (.ref b43), (.ref b36), (.ref b36)])) rfl rfl (hb hby at_60)
  have N51 := Fr.snoc X51 N35 ge_b43
  have Z51 : n0 ≤ h51.size := Nat.le_trans Z43 (Nat.le_of_eq W51.size.symm)
  have K51 : Keep h0 h51 [] := K43.wr W51 (Or.inr sz_b43)
  rw [own_nc] at W51
  have V51 : Arv Z h51 b43 k43 .char (3 : Int32) [(.int (own_c p0)), (.int (0 : Int32)), (.int (0 : Int32))] (.int (0 : Int32)) := Arv.set Ar50 qk50 Sz50 Ng50 Hs50 Gs50 (own_fc _) W51 0 rfl (Nat.le_of_ble_eq_true rfl)
  obtain ⟨cl52, Ar52, qk52, Sz52, Ng52, Hs52, Gs52⟩ := id V51
  have hin52 : ¬ ((1 : Int32) < 0 ∨ cl52.slots.size ≤ ((1 : Int32)).toNatClampNeg) := inb_of Sz52 ⟨by decide, by decide⟩
  obtain ⟨T53, h53, X53, e53, W53, st53⟩ := stC X51 hx hZ e51 Ar52 (j := (1 : Int32)) hin52 (g := (mkF m 65 #[iv p0, iv p1, iv p2, iv (own_c p0), iv (own_c p1), iv (own_c p2), rv b1, rv as13, rv b15, .unset, .unset, .unset, .unset, .unset, .unset, .unset, .unset] [(.int (own_c p1)), (.int 1), (.ref b43), (.ref b43), (.ref b36), (.ref b36)])) rfl rfl (hb hby at_65)
  have N53 := Fr.snoc X53 N51 ge_b43
  have Z53 : n0 ≤ h53.size := Nat.le_trans Z51 (Nat.le_of_eq W53.size.symm)
  have K53 : Keep h0 h53 [] := K51.wr W53 (Or.inr sz_b43)
  rw [own_nc] at W53
  have V53 : Arv Z h53 b43 k43 .char (3 : Int32) [(.int (own_c p0)), (.int (own_c p1)), (.int (0 : Int32))] (.int (0 : Int32)) := Arv.set Ar52 qk52 Sz52 Ng52 Hs52 Gs52 (own_fc _) W53 1 rfl (Nat.le_of_ble_eq_true rfl)
  obtain ⟨cl54, Ar54, qk54, Sz54, Ng54, Hs54, Gs54⟩ := id V53
  have hin54 : ¬ ((2 : Int32) < 0 ∨ cl54.slots.size ≤ ((2 : Int32)).toNatClampNeg) := inb_of Sz54 ⟨by decide, by decide⟩
  obtain ⟨T55, h55, X55, e55, W55, st55⟩ := stC X53 hx hZ e53 Ar54 (j := (2 : Int32)) hin54 (g := (mkF m 70 #[iv p0, iv p1, iv p2, iv (own_c p0), iv (own_c p1), iv (own_c p2), rv b1, rv as13, rv b15, .unset, .unset, .unset, .unset, .unset, .unset, .unset, .unset] [(.int (own_c p2)), (.int 2), (.ref b43), (.ref b43), (.ref b36), (.ref b36)])) rfl rfl (hb hby at_70)
  have N55 := Fr.snoc X55 N53 ge_b43
  have Z55 : n0 ≤ h55.size := Nat.le_trans Z53 (Nat.le_of_eq W55.size.symm)
  have K55 : Keep h0 h55 [] := K53.wr W55 (Or.inr sz_b43)
  rw [own_nc] at W55
  have V55 : Arv Z h55 b43 k43 .char (3 : Int32) [(.int (own_c p0)), (.int (own_c p1)), (.int (own_c p2))] (.int (0 : Int32)) := Arv.set Ar54 qk54 Sz54 Ng54 Hs54 Gs54 (own_fc _) W55 2 rfl (Nat.le_of_ble_eq_true rfl)
  have f56 := ((((A36.ext E43).wr W51).wr W53).wr W55)
  have f57 := ((((F36_value.ext E43).other W51 (Or.inl ne_b36_b43)).other W53 (Or.inl ne_b36_b43)).other W55 (Or.inl ne_b36_b43))
  have f58 := ((((F36_coder.ext E43).other W51 (Or.inl ne_b36_b43)).other W53 (Or.inl ne_b36_b43)).other W55 (Or.inl ne_b36_b43))
  have f59 := ((((((own_stak f31 K35 (allS (own_exns f28) all0)).ext E36).ext E43).wr W51).wr W53).wr W55)
  have f60 := ((((((own_stak f32 K35 (allS (own_exns f28) all0)).ext E36).ext E43).wr W51).wr W53).wr W55)
  have f61 := ((((((own_stak f33 K35 (allS (own_exns f28) all0)).ext E36).ext E43).wr W51).wr W53).wr W55)
  have f62 := ((((((own_stak f34 K35 (allS (own_exns f28) all0)).ext E36).ext E43).wr W51).wr W53).wr W55)
  obtain ⟨_, T63, Lc63, X63, hQ63, st63⟩ := own_special (W := 1) (y := mN4) X55 hx hZ rfl hown (hw _ (own_w 4 rfl)) (hw _ (own_w 5 rfl)) (hw _ (own_w 6 rfl)) (hw _ (own_w 2 rfl)) (by decide) (rmSi2_3 l Z av0 hw [] b36 b43 k43 wC (own_c p0) (own_c p1) (own_c p2) h55 n0 Z55 f56 f57 f58 ge_b36 V55 f59 hw0 (own_cr p0) (own_cr p1) (own_cr p2) f60 f61 f62) (by decide) (by decide) (g := (mkF m 71 #[iv p0, iv p1, iv p2, iv (own_c p0), iv (own_c p1), iv (own_c p2), rv b1, rv as13, rv b15, .unset, .unset, .unset, .unset, .unset, .unset, .unset, .unset] [(.ref b43), (.ref b36), (.ref b36)])) rfl (by rw [hml]; rfl) (a := b36) (argsL := [(.ref b43)]) (rest := [(.ref b36)]) (lenOf pd__C_V rfl) rfl (hb hby at_71) rfl e55 (by decide : 12 + 2 ≤ _) (by decide : 33 + 9 ≤ _)
  obtain ⟨rfl, N63q, K63, St63⟩ := hQ63
  have N63 := Fr.app N55 N63q
  have e63 : T63.heap = T63.heap := rfl
  have Zk63 : n0 ≤ T63.heap.size := Nat.le_trans Z55 K63.1
  have Kk63 : Keep h0 T63.heap [] := K55.trans K63 (allS (Or.inr sz_b36) all0)
  have f64 := ((((((((((((FV6.keep K13 nin0).ext E15).ext E19).other W25 (Or.inl ne_b1_b19)).other W27 (Or.inl ne_b1_b19)).keep K35 (ninS ne_b1_b15 nin0)).ext E36).ext E43).other W51 (Or.inl ne_b1_b43)).other W53 (Or.inl ne_b1_b43)).other W55 (Or.inl ne_b1_b43)).keep K63 (ninS ne_b1_b36 nin0))
  have f65 := ((((((((((((FC6.keep K13 nin0).ext E15).ext E19).other W25 (Or.inl ne_b1_b19)).other W27 (Or.inl ne_b1_b19)).keep K35 (ninS ne_b1_b15 nin0)).ext E36).ext E43).other W51 (Or.inl ne_b1_b43)).other W53 (Or.inl ne_b1_b43)).other W55 (Or.inl ne_b1_b43)).keep K63 (ninS ne_b1_b36 nin0))
  have f66 := (((((f49.ext E43).other W51 ne_b6_b43).other W53 ne_b6_b43).other W55 ne_b6_b43).keep K63 (ninS ne_b6_b36 nin0))
  have f67 := (((((f45.ext E43).wr W51).wr W53).wr W55).keep K63)
  have f68 := (own_stak f59 K63 (allS (own_exns f56) all0))
  have f69 := (own_stak ((((((own_stak (((((own_stak (own_stak ((hF.ext E1).ext E2) K6 (allS (own_exns f3) all0)) K13 all0).ext E15).ext E19).wr W25).wr W27) K35 (allS (own_exns f28) all0)).ext E36).ext E43).wr W51).wr W53).wr W55) K63 (allS (own_exns f56) all0))
  have f70 := (own_stak f60 K63 (allS (own_exns f56) all0))
  have f71 := (own_stak f61 K63 (allS (own_exns f56) all0))
  have f72 := (own_stak f62 K63 (allS (own_exns f56) all0))
  obtain ⟨_, T73, Lc73, X73, hQ73, st73⟩ := own_callS (W := 0) (y := mN7) X63 hx hZ hown (hw _ (own_w 47 rfl)) (hw _ (own_w 48 rfl)) (hw _ (own_w 49 rfl)) (hw _ (own_w 50 rfl)) (by decide) (rmFv_0 l Z av0 hw [] b1 wC fm  T63.heap n0 Zk63 f67 (Or.inl ⟨b6, _, f64, f65, f66⟩) f68 hw0 hfm f69 f70 f71 f72) (by decide) (by decide) (g := (mkF m 78 #[iv p0, iv p1, iv p2, iv (own_c p0), iv (own_c p1), iv (own_c p2), rv b1, rv as13, rv b15, rv b36, .unset, .unset, .unset, .unset, .unset, .unset, .unset] [(.ref b1)])) rfl (by rw [hml]; rfl) (argsL := [(.ref b1)]) (rest := []) (lenOf pd__Ljava_lang_String_Z rfl) rfl (hb hby at_78) rfl e63 (by decide : 14 + 0 ≤ _) (by decide : 42 + 0 ≤ _)
  obtain ⟨rfl, N73q, hh73⟩ := hQ73
  have N73 := Fr.app N63 N73q
  have e73 : T73.heap = T63.heap := hh73
  have f74 := (own_St1_k1 (own_St1_wr (own_St1_wr (own_St1_wr (own_St1_ext (own_St1_ext (own_St1_k1 (own_St1_wr (own_St1_wr (own_St1_ext (own_St1_ext St13 E15) E19) W25 ne_as13_b19 (fun A => own_arne A Ar24)) W27 ne_as13_b19 (fun A => own_arne A Ar26)) K35 ne_as13_b15 (fun A => Ne.symm (f28.neArv A (hw _ (own_w 1 rfl))))) E36) E43) W51 ne_as13_b43 (fun A => own_arne A Ar50)) W53 ne_as13_b43 (fun A => own_arne A Ar52)) W55 ne_as13_b43 (fun A => own_arne A Ar54)) K63 ne_as13_b36 (fun A => Ne.symm (f56.neArv A (hw _ (own_w 1 rfl)))))
  have f75 := (((((f44.ext E43).wr W51).wr W53).wr W55).keep K63)
  obtain ⟨_, T76, Lc76, X76, hQ76, st76⟩ := own_callS (W := 0) (y := mN7) X73 hx hZ hown (hw _ (own_w 47 rfl)) (hw _ (own_w 48 rfl)) (hw _ (own_w 49 rfl)) (hw _ (own_w 50 rfl)) (by decide) (rmFv_1 l Z av0 hw [] as13 wC fm (own_c p0) T63.heap n0 Zk63 f75 f74 f68 hw0 hfm f69 f70 f71 f72 (own_cr p0)) (by decide) (by decide) (g := (mkF m 85 #[iv p0, iv p1, iv p2, iv (own_c p0), iv (own_c p1), iv (own_c p2), rv b1, rv as13, rv b15, rv b36, iv (own_fv []), .unset, .unset, .unset, .unset, .unset, .unset] [(.ref as13)])) rfl (by rw [hml]; rfl) (argsL := [(.ref as13)]) (rest := []) (lenOf pd__Ljava_lang_String_Z rfl) rfl (hb hby at_85) rfl e73 (by decide : 14 + 0 ≤ _) (by decide : 42 + 0 ≤ _)
  obtain ⟨rfl, N76q, hh76⟩ := hQ76
  have N76 := Fr.app N73 N76q
  have e76 : T76.heap = T63.heap := hh76
  have f77 := (own_St2_k1 (own_St2_wr (own_St2_wr (own_St2_wr (own_St2_ext (own_St2_ext St35 E36) E43) W51 ne_b15_b43 (fun A => own_arne A Ar50)) W53 ne_b15_b43 (fun A => own_arne A Ar52)) W55 ne_b15_b43 (fun A => own_arne A Ar54)) K63 ne_b15_b36 (fun A => Ne.symm (f56.neArv A (hw _ (own_w 1 rfl)))))
  have f78 := (((((f46.ext E43).wr W51).wr W53).wr W55).keep K63)
  obtain ⟨_, T79, Lc79, X79, hQ79, st79⟩ := own_callS (W := 0) (y := mN7) X76 hx hZ hown (hw _ (own_w 47 rfl)) (hw _ (own_w 48 rfl)) (hw _ (own_w 49 rfl)) (hw _ (own_w 50 rfl)) (by decide) (rmFv_2 l Z av0 hw [] b15 wC fm (own_c p0) (own_c p1) T63.heap n0 Zk63 f78 f77 f68 hw0 hfm f69 f70 f71 f72 (own_cr p0) (own_cr p1)) (by decide) (by decide) (g := (mkF m 92 #[iv p0, iv p1, iv p2, iv (own_c p0), iv (own_c p1), iv (own_c p2), rv b1, rv as13, rv b15, rv b36, iv (own_fv []), iv ((own_fv [(own_c p0)])), .unset, .unset, .unset, .unset, .unset] [(.ref b15)])) rfl (by rw [hml]; rfl) (argsL := [(.ref b15)]) (rest := []) (lenOf pd__Ljava_lang_String_Z rfl) rfl (hb hby at_92) rfl e76 (by decide : 14 + 0 ≤ _) (by decide : 42 + 0 ≤ _)
  obtain ⟨rfl, N79q, hh79⟩ := hQ79
  have N79 := Fr.app N76 N79q
  have e79 : T79.heap = T63.heap := hh79
  have f80 := (f56.keep K63)
  obtain ⟨_, T81, Lc81, X81, hQ81, st81⟩ := own_callS (W := 0) (y := mN7) X79 hx hZ hown (hw _ (own_w 47 rfl)) (hw _ (own_w 48 rfl)) (hw _ (own_w 49 rfl)) (hw _ (own_w 50 rfl)) (by decide) (rmFv_3 l Z av0 hw [] b36 wC fm (own_c p0) (own_c p1) (own_c p2) T63.heap n0 Zk63 f80 St63 f68 hw0 hfm f69 f70 f71 f72 (own_cr p0) (own_cr p1) (own_cr p2)) (by decide) (by decide) (g := (mkF m 99 #[iv p0, iv p1, iv p2, iv (own_c p0), iv (own_c p1), iv (own_c p2), rv b1, rv as13, rv b15, rv b36, iv (own_fv []), iv ((own_fv [(own_c p0)])), iv ((own_fv [(own_c p0), (own_c p1)])), .unset, .unset, .unset, .unset] [(.ref b36)])) rfl (by rw [hml]; rfl) (argsL := [(.ref b36)]) (rest := []) (lenOf pd__Ljava_lang_String_Z rfl) rfl (hb hby at_99) rfl e79 (by decide : 14 + 0 ≤ _) (by decide : 42 + 0 ≤ _)
  obtain ⟨rfl, N81q, hh81⟩ := hQ81
  have N81 := Fr.app N79 N81q
  have e81 : T81.heap = T63.heap := hh81
  obtain ⟨_, T82, Lc82, X82, hQ82, st82⟩ := own_callS (W := 0) (y := mN2) X81 hx hZ hown (hw _ (own_w 89 rfl)) (hw _ (own_w 90 rfl)) (hw _ (own_w 91 rfl)) (hw _ (own_w 92 rfl)) (by decide) (rmOk l Z av0 hw [] (own_c p0) T63.heap n0 Zk63 ) (by decide) (by decide) (g := (mkF m 105 #[iv p0, iv p1, iv p2, iv (own_c p0), iv (own_c p1), iv (own_c p2), rv b1, rv as13, rv b15, rv b36, iv (own_fv []), iv ((own_fv [(own_c p0)])), iv ((own_fv [(own_c p0), (own_c p1)])), iv ((own_fv [(own_c p0), (own_c p1), (own_c p2)])), .unset, .unset, .unset] [(.int (own_c p0))])) rfl (by rw [hml]; rfl) (argsL := [(.int (own_c p0))]) (rest := []) (lenOf pd__C_Z rfl) rfl (hb hby at_105) rfl e81 (by decide : 14 + 0 ≤ _) (by decide : 42 + 0 ≤ _)
  obtain ⟨rfl, N82q, hh82⟩ := hQ82
  have N82 := Fr.app N81 N82q
  have e82 : T82.heap = T63.heap := hh82
  have S83 : ∀ t, oS p e below T82 (mkF m 112 #[iv p0, iv p1, iv p2, iv (own_c p0), iv (own_c p1), iv (own_c p2), rv b1, rv as13, rv b15, rv b36, iv (own_fv []), iv ((own_fv [(own_c p0)])), iv ((own_fv [(own_c p0), (own_c p1)])), iv ((own_fv [(own_c p0), (own_c p1), (own_c p2)])), iv ((own_ok (own_c p0))), .unset, .unset] [(.int (own_ok (own_c p0)))]) t → oS p e below s₁ (mkF m 0 #[iv p0, iv p1, iv p2, .unset, .unset, .unset, .unset, .unset, .unset, .unset, .unset, .unset, .unset, .unset, .unset, .unset, .unset] []) t := fun t k => S7 t (by
    show oS p e below T2 (mkF m 18 #[iv p0, iv p1, iv p2, iv (own_c p0), iv (own_c p1), iv (own_c p2), .unset, .unset, .unset, .unset, .unset, .unset, .unset, .unset, .unset, .unset, .unset] [(.ref b2), (.ref b1), (.ref b1)]) _
    refine st6 _ ?_
    refine XS.astore X6.here hx rfl (hb hby at_21) rfl rfl (l' := #[iv p0, iv p1, iv p2, iv (own_c p0), iv (own_c p1), iv (own_c p2), rv b1, .unset, .unset, .unset, .unset, .unset, .unset, .unset, .unset, .unset, .unset]) rfl ?_
    refine XS.iloadN X6.here hx rfl (hb hby at_23) rfl ?_
    refine st13 _ ?_
    refine XS.astore X13.here hx rfl (hb hby at_27) rfl rfl (l' := #[iv p0, iv p1, iv p2, iv (own_c p0), iv (own_c p1), iv (own_c p2), rv b1, rv as13, .unset, .unset, .unset, .unset, .unset, .unset, .unset, .unset, .unset]) rfl ?_
    refine st15 _ ?_
    refine XS.dup X15.here hx rfl (hb hby at_32) rfl rfl ?_
    refine XT.iconstV X15.here hx rfl (2 : Int32) (hb hby at_33) (by decide) ?_
    refine st19 _ ?_
    refine XS.dup X19.here hx rfl (hb hby at_36) rfl rfl ?_
    refine XT.iconstV X19.here hx rfl (0 : Int32) (hb hby at_37) (by decide) ?_
    refine XS.iloadN X19.here hx rfl (hb hby at_38) rfl ?_
    refine st25 _ ?_
    refine XS.dup X25.here hx rfl (hb hby at_40) rfl rfl ?_
    show oS p e below T25 (mkF m 41 #[iv p0, iv p1, iv p2, iv (own_c p0), iv (own_c p1), iv (own_c p2), rv b1, rv as13, .unset, .unset, .unset, .unset, .unset, .unset, .unset, .unset, .unset] [(.ref b19), (.ref b19), (.ref b15), (.ref b15)]) _
    refine XT.iconstV X25.here hx rfl (1 : Int32) (hb hby at_41) (by decide) ?_
    refine XS.iload X25.here hx rfl (hb hby at_42) rfl ?_
    refine st27 _ ?_
    refine st35 _ ?_
    refine XS.astore X35.here hx rfl (hb hby at_48) rfl rfl (l' := #[iv p0, iv p1, iv p2, iv (own_c p0), iv (own_c p1), iv (own_c p2), rv b1, rv as13, rv b15, .unset, .unset, .unset, .unset, .unset, .unset, .unset, .unset]) rfl ?_
    refine st36 _ ?_
    refine XS.dup X36.here hx rfl (hb hby at_53) rfl rfl ?_
    refine XT.iconstV X36.here hx rfl (3 : Int32) (hb hby at_54) (by decide) ?_
    refine st43 _ ?_
    refine XS.dup X43.here hx rfl (hb hby at_57) rfl rfl ?_
    refine XT.iconstV X43.here hx rfl (0 : Int32) (hb hby at_58) (by decide) ?_
    refine XS.iloadN X43.here hx rfl (hb hby at_59) rfl ?_
    refine st51 _ ?_
    refine XS.dup X51.here hx rfl (hb hby at_61) rfl rfl ?_
    refine XT.iconstV X51.here hx rfl (1 : Int32) (hb hby at_62) (by decide) ?_
    show oS p e below T51 (mkF m 63 #[iv p0, iv p1, iv p2, iv (own_c p0), iv (own_c p1), iv (own_c p2), rv b1, rv as13, rv b15, .unset, .unset, .unset, .unset, .unset, .unset, .unset, .unset] [(.int 1), (.ref b43), (.ref b43), (.ref b36), (.ref b36)]) _
    refine XS.iload X51.here hx rfl (hb hby at_63) rfl ?_
    refine st53 _ ?_
    refine XS.dup X53.here hx rfl (hb hby at_66) rfl rfl ?_
    refine XT.iconstV X53.here hx rfl (2 : Int32) (hb hby at_67) (by decide) ?_
    refine XS.iload X53.here hx rfl (hb hby at_68) rfl ?_
    refine st55 _ ?_
    refine st63 _ ?_
    refine XS.astore X63.here hx rfl (hb hby at_74) rfl rfl (l' := #[iv p0, iv p1, iv p2, iv (own_c p0), iv (own_c p1), iv (own_c p2), rv b1, rv as13, rv b15, rv b36, .unset, .unset, .unset, .unset, .unset, .unset, .unset]) rfl ?_
    refine XS.aload X63.here hx rfl (hb hby at_76) rfl rfl ?_
    refine st73 _ ?_
    refine XS.istore X73.here hx rfl (hb hby at_81) rfl (l' := #[iv p0, iv p1, iv p2, iv (own_c p0), iv (own_c p1), iv (own_c p2), rv b1, rv as13, rv b15, rv b36, iv (own_fv []), .unset, .unset, .unset, .unset, .unset, .unset]) rfl ?_
    refine XS.aload X73.here hx rfl (hb hby at_83) rfl rfl ?_
    refine st76 _ ?_
    refine XS.istore X76.here hx rfl (hb hby at_88) rfl (l' := #[iv p0, iv p1, iv p2, iv (own_c p0), iv (own_c p1), iv (own_c p2), rv b1, rv as13, rv b15, rv b36, iv (own_fv []), iv ((own_fv [(own_c p0)])), .unset, .unset, .unset, .unset, .unset]) rfl ?_
    refine XS.aload X76.here hx rfl (hb hby at_90) rfl rfl ?_
    show oS p e below T76 (mkF m 92 #[iv p0, iv p1, iv p2, iv (own_c p0), iv (own_c p1), iv (own_c p2), rv b1, rv as13, rv b15, rv b36, iv (own_fv []), iv ((own_fv [(own_c p0)])), .unset, .unset, .unset, .unset, .unset] [(.ref b15)]) _
    refine st79 _ ?_
    refine XS.istore X79.here hx rfl (hb hby at_95) rfl (l' := #[iv p0, iv p1, iv p2, iv (own_c p0), iv (own_c p1), iv (own_c p2), rv b1, rv as13, rv b15, rv b36, iv (own_fv []), iv ((own_fv [(own_c p0)])), iv ((own_fv [(own_c p0), (own_c p1)])), .unset, .unset, .unset, .unset]) rfl ?_
    refine XS.aload X79.here hx rfl (hb hby at_97) rfl rfl ?_
    refine st81 _ ?_
    refine XS.istore X81.here hx rfl (hb hby at_102) rfl (l' := #[iv p0, iv p1, iv p2, iv (own_c p0), iv (own_c p1), iv (own_c p2), rv b1, rv as13, rv b15, rv b36, iv (own_fv []), iv ((own_fv [(own_c p0)])), iv ((own_fv [(own_c p0), (own_c p1)])), iv ((own_fv [(own_c p0), (own_c p1), (own_c p2)])), .unset, .unset, .unset]) rfl ?_
    refine XS.iloadN X81.here hx rfl (hb hby at_104) rfl ?_
    refine st82 _ ?_
    refine XS.istore X82.here hx rfl (hb hby at_108) rfl (l' := #[iv p0, iv p1, iv p2, iv (own_c p0), iv (own_c p1), iv (own_c p2), rv b1, rv as13, rv b15, rv b36, iv (own_fv []), iv ((own_fv [(own_c p0)])), iv ((own_fv [(own_c p0), (own_c p1)])), iv ((own_fv [(own_c p0), (own_c p1), (own_c p2)])), iv ((own_ok (own_c p0))), .unset, .unset]) rfl ?_
    refine XS.iload X82.here hx rfl (hb hby at_110) rfl ?_
    exact k)
  by_cases hc112_84 : (own_ok (own_c p0)) = (0 : Int32)
  · have S85 : ∀ t, oS p e below T82 (mkF m 181 #[iv p0, iv p1, iv p2, iv (own_c p0), iv (own_c p1), iv (own_c p2), rv b1, rv as13, rv b15, rv b36, iv (own_fv []), iv ((own_fv [(own_c p0)])), iv ((own_fv [(own_c p0), (own_c p1)])), iv ((own_fv [(own_c p0), (own_c p1), (own_c p2)])), iv ((own_ok (own_c p0))), iv 0, iv 0] [(.int 1)]) t → oS p e below s₁ (mkF m 0 #[iv p0, iv p1, iv p2, .unset, .unset, .unset, .unset, .unset, .unset, .unset, .unset, .unset, .unset, .unset, .unset, .unset, .unset] []) t := fun t k => S83 t (by
      show oS p e below T82 (mkF m 112 #[iv p0, iv p1, iv p2, iv (own_c p0), iv (own_c p1), iv (own_c p2), rv b1, rv as13, rv b15, rv b36, iv (own_fv []), iv ((own_fv [(own_c p0)])), iv ((own_fv [(own_c p0), (own_c p1)])), iv ((own_fv [(own_c p0), (own_c p1), (own_c p2)])), iv ((own_ok (own_c p0))), .unset, .unset] [(.int (own_ok (own_c p0)))]) _
      refine XS.ifYes X82.here hx rfl (pc0 := 112) (pc' := 127) rfl (hb hby at_112) rfl (XT.i0_eq_t hc112_84) (by decide) (by decide) ?_
      refine XT.iconstV X82.here hx rfl (0 : Int32) (hb hby at_127) (by decide) ?_
      refine XS.istore X82.here hx rfl (hb hby at_128) rfl (l' := #[iv p0, iv p1, iv p2, iv (own_c p0), iv (own_c p1), iv (own_c p2), rv b1, rv as13, rv b15, rv b36, iv (own_fv []), iv ((own_fv [(own_c p0)])), iv ((own_fv [(own_c p0), (own_c p1)])), iv ((own_fv [(own_c p0), (own_c p1), (own_c p2)])), iv ((own_ok (own_c p0))), iv 0, .unset]) rfl ?_
      refine XS.iload X82.here hx rfl (hb hby at_130) rfl ?_
      refine XS.ifYes X82.here hx rfl (pc0 := 132) (pc' := 147) rfl (hb hby at_132) rfl (XT.i0_eq_t (by decide)) (by decide) (by decide) ?_
      refine XT.iconstV X82.here hx rfl (0 : Int32) (hb hby at_147) (by decide) ?_
      show oS p e below T82 (mkF m 148 #[iv p0, iv p1, iv p2, iv (own_c p0), iv (own_c p1), iv (own_c p2), rv b1, rv as13, rv b15, rv b36, iv (own_fv []), iv ((own_fv [(own_c p0)])), iv ((own_fv [(own_c p0), (own_c p1)])), iv ((own_fv [(own_c p0), (own_c p1), (own_c p2)])), iv ((own_ok (own_c p0))), iv 0, .unset] [(.int 0)]) _
      refine XS.istore X82.here hx rfl (hb hby at_148) rfl (l' := #[iv p0, iv p1, iv p2, iv (own_c p0), iv (own_c p1), iv (own_c p2), rv b1, rv as13, rv b15, rv b36, iv (own_fv []), iv ((own_fv [(own_c p0)])), iv ((own_fv [(own_c p0), (own_c p1)])), iv ((own_fv [(own_c p0), (own_c p1), (own_c p2)])), iv ((own_ok (own_c p0))), iv 0, iv 0]) rfl ?_
      refine XS.iload X82.here hx rfl (hb hby at_150) rfl ?_
      refine XS.ifNo X82.here hx rfl (hb hby at_152) rfl (XT.i0_eq_f (by decide)) ?_
      refine XS.iload X82.here hx rfl (hb hby at_155) rfl ?_
      refine XS.iload X82.here hx rfl (hb hby at_157) rfl ?_
      refine XS.icmpNo X82.here hx rfl (hb hby at_159) rfl (XT.ii_ne_f (by simp [own_fstep, own_fend, hc112_84])) ?_
      refine XS.iload X82.here hx rfl (hb hby at_162) rfl ?_
      refine XS.iload X82.here hx rfl (hb hby at_164) rfl ?_
      refine XS.icmpNo X82.here hx rfl (hb hby at_166) rfl (XT.ii_ne_f (by simp [own_fstep, own_fend, hc112_84])) ?_
      refine XS.iload X82.here hx rfl (hb hby at_169) rfl ?_
      refine XS.iload X82.here hx rfl (hb hby at_171) rfl ?_
      refine XS.icmpNo X82.here hx rfl (hb hby at_173) rfl (XT.ii_ne_f (by simp [own_fstep, own_fend, hc112_84])) ?_
      refine XT.iconstV X82.here hx rfl (1 : Int32) (hb hby at_176) (by decide) ?_
      refine XS.goto X82.here hx rfl (pc0 := 177) (pc' := 181) rfl (hb hby at_177) (by decide) (by decide) ?_
      exact k)
    obtain ⟨fs, hr, hrun, hended, hEnd⟩ := X82.leaveW hS6 (by rw [e82]; exact (Nat.le_trans (Nat.le_trans (Nat.le_trans (Nat.le_trans (Nat.le_trans (Nat.le_trans (Nat.le_trans (Nat.le_trans (Nat.le_trans (Nat.le_trans (Nat.le_trans (Nat.le_trans (Nat.le_refl _) K13.1) E15.1) E19.1) (Nat.le_of_eq W25.size.symm)) (Nat.le_of_eq W27.size.symm)) K35.1) E36.1) E43.1) (Nat.le_of_eq W51.size.symm)) (Nat.le_of_eq W53.size.symm)) (Nat.le_of_eq W55.size.symm)) K63.1)) (v := some (.int 1)) (fun h => by rw [Bd.returns] at h; cases h)
    refine ⟨_, _, pre0 _ (S85 _ ?_), hrun, hended, _, _, rfl, ?_, hEnd.1, hEnd.2.1, hEnd.2.2.1, hEnd.2.2.2.mono (by decide) (by decide)⟩
    · exact retN X82 hx (t := .boolean) Bd.returns (by simp) (hb hby at_181) hr
    · show Qrm0 Z p0 p1 p2 wC fm h0 n0 _ T82.heap _
      rw [e82]
      exact ⟨rfl, N82⟩
  · obtain ⟨_, T86, Lc86, X86, hQ86, st86⟩ := own_callS (W := 0) (y := mN2) X82 hx hZ hown (hw _ (own_w 89 rfl)) (hw _ (own_w 90 rfl)) (hw _ (own_w 91 rfl)) (hw _ (own_w 92 rfl)) (by decide) (rmOk l Z av0 hw [] (own_c p1) T63.heap n0 Zk63 ) (by decide) (by decide) (g := (mkF m 117 #[iv p0, iv p1, iv p2, iv (own_c p0), iv (own_c p1), iv (own_c p2), rv b1, rv as13, rv b15, rv b36, iv (own_fv []), iv ((own_fv [(own_c p0)])), iv ((own_fv [(own_c p0), (own_c p1)])), iv ((own_fv [(own_c p0), (own_c p1), (own_c p2)])), iv ((own_ok (own_c p0))), .unset, .unset] [(.int (own_c p1))])) rfl (by rw [hml]; rfl) (argsL := [(.int (own_c p1))]) (rest := []) (lenOf pd__C_Z rfl) rfl (hb hby at_117) rfl e82 (by decide : 14 + 0 ≤ _) (by decide : 42 + 0 ≤ _)
    obtain ⟨rfl, N86q, hh86⟩ := hQ86
    have N86 := Fr.app N82 N86q
    have e86 : T86.heap = T63.heap := hh86
    have S87 : ∀ t, oS p e below T86 (mkF m 120 #[iv p0, iv p1, iv p2, iv (own_c p0), iv (own_c p1), iv (own_c p2), rv b1, rv as13, rv b15, rv b36, iv (own_fv []), iv ((own_fv [(own_c p0)])), iv ((own_fv [(own_c p0), (own_c p1)])), iv ((own_fv [(own_c p0), (own_c p1), (own_c p2)])), iv ((own_ok (own_c p0))), .unset, .unset] [(.int (own_ok (own_c p1)))]) t → oS p e below s₁ (mkF m 0 #[iv p0, iv p1, iv p2, .unset, .unset, .unset, .unset, .unset, .unset, .unset, .unset, .unset, .unset, .unset, .unset, .unset, .unset] []) t := fun t k => S83 t (by
      show oS p e below T82 (mkF m 112 #[iv p0, iv p1, iv p2, iv (own_c p0), iv (own_c p1), iv (own_c p2), rv b1, rv as13, rv b15, rv b36, iv (own_fv []), iv ((own_fv [(own_c p0)])), iv ((own_fv [(own_c p0), (own_c p1)])), iv ((own_fv [(own_c p0), (own_c p1), (own_c p2)])), iv ((own_ok (own_c p0))), .unset, .unset] [(.int (own_ok (own_c p0)))]) _
      refine XS.ifNo X82.here hx rfl (hb hby at_112) rfl (XT.i0_eq_f hc112_84) ?_
      refine XS.iload X82.here hx rfl (hb hby at_115) rfl ?_
      refine st86 _ ?_
      exact k)
    by_cases hc120_88 : (own_ok (own_c p1)) = (0 : Int32)
    · have S89 : ∀ t, oS p e below T86 (mkF m 181 #[iv p0, iv p1, iv p2, iv (own_c p0), iv (own_c p1), iv (own_c p2), rv b1, rv as13, rv b15, rv b36, iv (own_fv []), iv ((own_fv [(own_c p0)])), iv ((own_fv [(own_c p0), (own_c p1)])), iv ((own_fv [(own_c p0), (own_c p1), (own_c p2)])), iv ((own_ok (own_c p0))), iv 0, iv 0] [(.int 1)]) t → oS p e below s₁ (mkF m 0 #[iv p0, iv p1, iv p2, .unset, .unset, .unset, .unset, .unset, .unset, .unset, .unset, .unset, .unset, .unset, .unset, .unset, .unset] []) t := fun t k => S87 t (by
        show oS p e below T86 (mkF m 120 #[iv p0, iv p1, iv p2, iv (own_c p0), iv (own_c p1), iv (own_c p2), rv b1, rv as13, rv b15, rv b36, iv (own_fv []), iv ((own_fv [(own_c p0)])), iv ((own_fv [(own_c p0), (own_c p1)])), iv ((own_fv [(own_c p0), (own_c p1), (own_c p2)])), iv ((own_ok (own_c p0))), .unset, .unset] [(.int (own_ok (own_c p1)))]) _
        refine XS.ifYes X86.here hx rfl (pc0 := 120) (pc' := 127) rfl (hb hby at_120) rfl (XT.i0_eq_t hc120_88) (by decide) (by decide) ?_
        refine XT.iconstV X86.here hx rfl (0 : Int32) (hb hby at_127) (by decide) ?_
        refine XS.istore X86.here hx rfl (hb hby at_128) rfl (l' := #[iv p0, iv p1, iv p2, iv (own_c p0), iv (own_c p1), iv (own_c p2), rv b1, rv as13, rv b15, rv b36, iv (own_fv []), iv ((own_fv [(own_c p0)])), iv ((own_fv [(own_c p0), (own_c p1)])), iv ((own_fv [(own_c p0), (own_c p1), (own_c p2)])), iv ((own_ok (own_c p0))), iv 0, .unset]) rfl ?_
        show oS p e below T86 (mkF m 130 #[iv p0, iv p1, iv p2, iv (own_c p0), iv (own_c p1), iv (own_c p2), rv b1, rv as13, rv b15, rv b36, iv (own_fv []), iv ((own_fv [(own_c p0)])), iv ((own_fv [(own_c p0), (own_c p1)])), iv ((own_fv [(own_c p0), (own_c p1), (own_c p2)])), iv ((own_ok (own_c p0))), iv 0, .unset] []) _
        refine XS.iload X86.here hx rfl (hb hby at_130) rfl ?_
        refine XS.ifYes X86.here hx rfl (pc0 := 132) (pc' := 147) rfl (hb hby at_132) rfl (XT.i0_eq_t (by decide)) (by decide) (by decide) ?_
        refine XT.iconstV X86.here hx rfl (0 : Int32) (hb hby at_147) (by decide) ?_
        refine XS.istore X86.here hx rfl (hb hby at_148) rfl (l' := #[iv p0, iv p1, iv p2, iv (own_c p0), iv (own_c p1), iv (own_c p2), rv b1, rv as13, rv b15, rv b36, iv (own_fv []), iv ((own_fv [(own_c p0)])), iv ((own_fv [(own_c p0), (own_c p1)])), iv ((own_fv [(own_c p0), (own_c p1), (own_c p2)])), iv ((own_ok (own_c p0))), iv 0, iv 0]) rfl ?_
        refine XS.iload X86.here hx rfl (hb hby at_150) rfl ?_
        refine XS.ifNo X86.here hx rfl (hb hby at_152) rfl (XT.i0_eq_f (by decide)) ?_
        refine XS.iload X86.here hx rfl (hb hby at_155) rfl ?_
        refine XS.iload X86.here hx rfl (hb hby at_157) rfl ?_
        refine XS.icmpNo X86.here hx rfl (hb hby at_159) rfl (XT.ii_ne_f (by simp [own_fstep, own_fend, hc112_84, own_ok1 hc112_84, hc120_88])) ?_
        refine XS.iload X86.here hx rfl (hb hby at_162) rfl ?_
        refine XS.iload X86.here hx rfl (hb hby at_164) rfl ?_
        refine XS.icmpNo X86.here hx rfl (hb hby at_166) rfl (XT.ii_ne_f (by simp [own_fstep, own_fend, hc112_84, own_ok1 hc112_84, hc120_88])) ?_
        refine XS.iload X86.here hx rfl (hb hby at_169) rfl ?_
        refine XS.iload X86.here hx rfl (hb hby at_171) rfl ?_
        refine XS.icmpNo X86.here hx rfl (hb hby at_173) rfl (XT.ii_ne_f (by simp [own_fstep, own_fend, hc112_84, own_ok1 hc112_84, hc120_88])) ?_
        show oS p e below T86 (mkF m 176 #[iv p0, iv p1, iv p2, iv (own_c p0), iv (own_c p1), iv (own_c p2), rv b1, rv as13, rv b15, rv b36, iv (own_fv []), iv ((own_fv [(own_c p0)])), iv ((own_fv [(own_c p0), (own_c p1)])), iv ((own_fv [(own_c p0), (own_c p1), (own_c p2)])), iv ((own_ok (own_c p0))), iv 0, iv 0] []) _
        refine XT.iconstV X86.here hx rfl (1 : Int32) (hb hby at_176) (by decide) ?_
        refine XS.goto X86.here hx rfl (pc0 := 177) (pc' := 181) rfl (hb hby at_177) (by decide) (by decide) ?_
        exact k)
      obtain ⟨fs, hr, hrun, hended, hEnd⟩ := X86.leaveW hS6 (by rw [e86]; exact (Nat.le_trans (Nat.le_trans (Nat.le_trans (Nat.le_trans (Nat.le_trans (Nat.le_trans (Nat.le_trans (Nat.le_trans (Nat.le_trans (Nat.le_trans (Nat.le_trans (Nat.le_trans (Nat.le_refl _) K13.1) E15.1) E19.1) (Nat.le_of_eq W25.size.symm)) (Nat.le_of_eq W27.size.symm)) K35.1) E36.1) E43.1) (Nat.le_of_eq W51.size.symm)) (Nat.le_of_eq W53.size.symm)) (Nat.le_of_eq W55.size.symm)) K63.1)) (v := some (.int 1)) (fun h => by rw [Bd.returns] at h; cases h)
      refine ⟨_, _, pre0 _ (S89 _ ?_), hrun, hended, _, _, rfl, ?_, hEnd.1, hEnd.2.1, hEnd.2.2.1, hEnd.2.2.2.mono (by decide) (by decide)⟩
      · exact retN X86 hx (t := .boolean) Bd.returns (by simp) (hb hby at_181) hr
      · show Qrm0 Z p0 p1 p2 wC fm h0 n0 _ T86.heap _
        rw [e86]
        exact ⟨rfl, N86⟩
    · obtain ⟨_, T90, Lc90, X90, hQ90, st90⟩ := own_callS (W := 0) (y := mN2) X86 hx hZ hown (hw _ (own_w 89 rfl)) (hw _ (own_w 90 rfl)) (hw _ (own_w 91 rfl)) (hw _ (own_w 92 rfl)) (by decide) (rmOk l Z av0 hw [] (own_c p2) T63.heap n0 Zk63 ) (by decide) (by decide) (g := (mkF m 137 #[iv p0, iv p1, iv p2, iv (own_c p0), iv (own_c p1), iv (own_c p2), rv b1, rv as13, rv b15, rv b36, iv (own_fv []), iv ((own_fv [(own_c p0)])), iv ((own_fv [(own_c p0), (own_c p1)])), iv ((own_fv [(own_c p0), (own_c p1), (own_c p2)])), iv ((own_ok (own_c p0))), iv 1, .unset] [(.int (own_c p2))])) rfl (by rw [hml]; rfl) (argsL := [(.int (own_c p2))]) (rest := []) (lenOf pd__C_Z rfl) rfl (hb hby at_137) rfl e86 (by decide : 14 + 0 ≤ _) (by decide : 42 + 0 ≤ _)
      obtain ⟨rfl, N90q, hh90⟩ := hQ90
      have N90 := Fr.app N86 N90q
      have e90 : T90.heap = T63.heap := hh90
      have S91 : ∀ t, oS p e below T90 (mkF m 140 #[iv p0, iv p1, iv p2, iv (own_c p0), iv (own_c p1), iv (own_c p2), rv b1, rv as13, rv b15, rv b36, iv (own_fv []), iv ((own_fv [(own_c p0)])), iv ((own_fv [(own_c p0), (own_c p1)])), iv ((own_fv [(own_c p0), (own_c p1), (own_c p2)])), iv ((own_ok (own_c p0))), iv 1, .unset] [(.int (own_ok (own_c p2)))]) t → oS p e below s₁ (mkF m 0 #[iv p0, iv p1, iv p2, .unset, .unset, .unset, .unset, .unset, .unset, .unset, .unset, .unset, .unset, .unset, .unset, .unset, .unset] []) t := fun t k => S87 t (by
        show oS p e below T86 (mkF m 120 #[iv p0, iv p1, iv p2, iv (own_c p0), iv (own_c p1), iv (own_c p2), rv b1, rv as13, rv b15, rv b36, iv (own_fv []), iv ((own_fv [(own_c p0)])), iv ((own_fv [(own_c p0), (own_c p1)])), iv ((own_fv [(own_c p0), (own_c p1), (own_c p2)])), iv ((own_ok (own_c p0))), .unset, .unset] [(.int (own_ok (own_c p1)))]) _
        refine XS.ifNo X86.here hx rfl (hb hby at_120) rfl (XT.i0_eq_f hc120_88) ?_
        refine XT.iconstV X86.here hx rfl (1 : Int32) (hb hby at_123) (by decide) ?_
        refine XS.goto X86.here hx rfl (pc0 := 124) (pc' := 128) rfl (hb hby at_124) (by decide) (by decide) ?_
        show oS p e below T86 (mkF m 128 #[iv p0, iv p1, iv p2, iv (own_c p0), iv (own_c p1), iv (own_c p2), rv b1, rv as13, rv b15, rv b36, iv (own_fv []), iv ((own_fv [(own_c p0)])), iv ((own_fv [(own_c p0), (own_c p1)])), iv ((own_fv [(own_c p0), (own_c p1), (own_c p2)])), iv ((own_ok (own_c p0))), .unset, .unset] [(.int 1)]) _
        refine XS.istore X86.here hx rfl (hb hby at_128) rfl (l' := #[iv p0, iv p1, iv p2, iv (own_c p0), iv (own_c p1), iv (own_c p2), rv b1, rv as13, rv b15, rv b36, iv (own_fv []), iv ((own_fv [(own_c p0)])), iv ((own_fv [(own_c p0), (own_c p1)])), iv ((own_fv [(own_c p0), (own_c p1), (own_c p2)])), iv ((own_ok (own_c p0))), iv 1, .unset]) rfl ?_
        refine XS.iload X86.here hx rfl (hb hby at_130) rfl ?_
        refine XS.ifNo X86.here hx rfl (hb hby at_132) rfl (XT.i0_eq_f (by decide)) ?_
        refine XS.iload X86.here hx rfl (hb hby at_135) rfl ?_
        refine st90 _ ?_
        exact k)
      by_cases hc140_92 : (own_ok (own_c p2)) = (0 : Int32)
      · have S93 : ∀ t, oS p e below T90 (mkF m 181 #[iv p0, iv p1, iv p2, iv (own_c p0), iv (own_c p1), iv (own_c p2), rv b1, rv as13, rv b15, rv b36, iv (own_fv []), iv ((own_fv [(own_c p0)])), iv ((own_fv [(own_c p0), (own_c p1)])), iv ((own_fv [(own_c p0), (own_c p1), (own_c p2)])), iv ((own_ok (own_c p0))), iv 1, iv 0] [(.int 1)]) t → oS p e below s₁ (mkF m 0 #[iv p0, iv p1, iv p2, .unset, .unset, .unset, .unset, .unset, .unset, .unset, .unset, .unset, .unset, .unset, .unset, .unset, .unset] []) t := fun t k => S91 t (by
          show oS p e below T90 (mkF m 140 #[iv p0, iv p1, iv p2, iv (own_c p0), iv (own_c p1), iv (own_c p2), rv b1, rv as13, rv b15, rv b36, iv (own_fv []), iv ((own_fv [(own_c p0)])), iv ((own_fv [(own_c p0), (own_c p1)])), iv ((own_fv [(own_c p0), (own_c p1), (own_c p2)])), iv ((own_ok (own_c p0))), iv 1, .unset] [(.int (own_ok (own_c p2)))]) _
          refine XS.ifYes X90.here hx rfl (pc0 := 140) (pc' := 147) rfl (hb hby at_140) rfl (XT.i0_eq_t hc140_92) (by decide) (by decide) ?_
          refine XT.iconstV X90.here hx rfl (0 : Int32) (hb hby at_147) (by decide) ?_
          refine XS.istore X90.here hx rfl (hb hby at_148) rfl (l' := #[iv p0, iv p1, iv p2, iv (own_c p0), iv (own_c p1), iv (own_c p2), rv b1, rv as13, rv b15, rv b36, iv (own_fv []), iv ((own_fv [(own_c p0)])), iv ((own_fv [(own_c p0), (own_c p1)])), iv ((own_fv [(own_c p0), (own_c p1), (own_c p2)])), iv ((own_ok (own_c p0))), iv 1, iv 0]) rfl ?_
          refine XS.iload X90.here hx rfl (hb hby at_150) rfl ?_
          refine XS.ifNo X90.here hx rfl (hb hby at_152) rfl (XT.i0_eq_f (by decide)) ?_
          refine XS.iload X90.here hx rfl (hb hby at_155) rfl ?_
          refine XS.iload X90.here hx rfl (hb hby at_157) rfl ?_
          refine XS.icmpNo X90.here hx rfl (hb hby at_159) rfl (XT.ii_ne_f (by simp [own_fstep, own_fend, hc112_84, own_ok1 hc112_84, hc120_88, own_ok1 hc120_88, hc140_92])) ?_
          refine XS.iload X90.here hx rfl (hb hby at_162) rfl ?_
          refine XS.iload X90.here hx rfl (hb hby at_164) rfl ?_
          show oS p e below T90 (mkF m 166 #[iv p0, iv p1, iv p2, iv (own_c p0), iv (own_c p1), iv (own_c p2), rv b1, rv as13, rv b15, rv b36, iv (own_fv []), iv ((own_fv [(own_c p0)])), iv ((own_fv [(own_c p0), (own_c p1)])), iv ((own_fv [(own_c p0), (own_c p1), (own_c p2)])), iv ((own_ok (own_c p0))), iv 1, iv 0] [(.int 1), (.int (own_fv [(own_c p0), (own_c p1)]))]) _
          refine XS.icmpNo X90.here hx rfl (hb hby at_166) rfl (XT.ii_ne_f (by simp [own_fstep, own_fend, hc112_84, own_ok1 hc112_84, hc120_88, own_ok1 hc120_88, hc140_92])) ?_
          refine XS.iload X90.here hx rfl (hb hby at_169) rfl ?_
          refine XS.iload X90.here hx rfl (hb hby at_171) rfl ?_
          refine XS.icmpNo X90.here hx rfl (hb hby at_173) rfl (XT.ii_ne_f (by simp [own_fstep, own_fend, hc112_84, own_ok1 hc112_84, hc120_88, own_ok1 hc120_88, hc140_92])) ?_
          refine XT.iconstV X90.here hx rfl (1 : Int32) (hb hby at_176) (by decide) ?_
          refine XS.goto X90.here hx rfl (pc0 := 177) (pc' := 181) rfl (hb hby at_177) (by decide) (by decide) ?_
          exact k)
        obtain ⟨fs, hr, hrun, hended, hEnd⟩ := X90.leaveW hS6 (by rw [e90]; exact (Nat.le_trans (Nat.le_trans (Nat.le_trans (Nat.le_trans (Nat.le_trans (Nat.le_trans (Nat.le_trans (Nat.le_trans (Nat.le_trans (Nat.le_trans (Nat.le_trans (Nat.le_trans (Nat.le_refl _) K13.1) E15.1) E19.1) (Nat.le_of_eq W25.size.symm)) (Nat.le_of_eq W27.size.symm)) K35.1) E36.1) E43.1) (Nat.le_of_eq W51.size.symm)) (Nat.le_of_eq W53.size.symm)) (Nat.le_of_eq W55.size.symm)) K63.1)) (v := some (.int 1)) (fun h => by rw [Bd.returns] at h; cases h)
        refine ⟨_, _, pre0 _ (S93 _ ?_), hrun, hended, _, _, rfl, ?_, hEnd.1, hEnd.2.1, hEnd.2.2.1, hEnd.2.2.2.mono (by decide) (by decide)⟩
        · exact retN X90 hx (t := .boolean) Bd.returns (by simp) (hb hby at_181) hr
        · show Qrm0 Z p0 p1 p2 wC fm h0 n0 _ T90.heap _
          rw [e90]
          exact ⟨rfl, N90⟩
      · have S94 : ∀ t, oS p e below T90 (mkF m 181 #[iv p0, iv p1, iv p2, iv (own_c p0), iv (own_c p1), iv (own_c p2), rv b1, rv as13, rv b15, rv b36, iv (own_fv []), iv ((own_fv [(own_c p0)])), iv ((own_fv [(own_c p0), (own_c p1)])), iv ((own_fv [(own_c p0), (own_c p1), (own_c p2)])), iv ((own_ok (own_c p0))), iv 1, iv 1] [(.int 1)]) t → oS p e below s₁ (mkF m 0 #[iv p0, iv p1, iv p2, .unset, .unset, .unset, .unset, .unset, .unset, .unset, .unset, .unset, .unset, .unset, .unset, .unset, .unset] []) t := fun t k => S91 t (by
          show oS p e below T90 (mkF m 140 #[iv p0, iv p1, iv p2, iv (own_c p0), iv (own_c p1), iv (own_c p2), rv b1, rv as13, rv b15, rv b36, iv (own_fv []), iv ((own_fv [(own_c p0)])), iv ((own_fv [(own_c p0), (own_c p1)])), iv ((own_fv [(own_c p0), (own_c p1), (own_c p2)])), iv ((own_ok (own_c p0))), iv 1, .unset] [(.int (own_ok (own_c p2)))]) _
          refine XS.ifNo X90.here hx rfl (hb hby at_140) rfl (XT.i0_eq_f hc140_92) ?_
          refine XT.iconstV X90.here hx rfl (1 : Int32) (hb hby at_143) (by decide) ?_
          refine XS.goto X90.here hx rfl (pc0 := 144) (pc' := 148) rfl (hb hby at_144) (by decide) (by decide) ?_
          refine XS.istore X90.here hx rfl (hb hby at_148) rfl (l' := #[iv p0, iv p1, iv p2, iv (own_c p0), iv (own_c p1), iv (own_c p2), rv b1, rv as13, rv b15, rv b36, iv (own_fv []), iv ((own_fv [(own_c p0)])), iv ((own_fv [(own_c p0), (own_c p1)])), iv ((own_fv [(own_c p0), (own_c p1), (own_c p2)])), iv ((own_ok (own_c p0))), iv 1, iv 1]) rfl ?_
          refine XS.iload X90.here hx rfl (hb hby at_150) rfl ?_
          refine XS.ifNo X90.here hx rfl (hb hby at_152) rfl (XT.i0_eq_f (by decide)) ?_
          refine XS.iload X90.here hx rfl (hb hby at_155) rfl ?_
          refine XS.iload X90.here hx rfl (hb hby at_157) rfl ?_
          refine XS.icmpNo X90.here hx rfl (hb hby at_159) rfl (XT.ii_ne_f (by simp [own_fstep, own_fend, hc112_84, own_ok1 hc112_84, hc120_88, own_ok1 hc120_88, hc140_92, own_ok1 hc140_92])) ?_
          refine XS.iload X90.here hx rfl (hb hby at_162) rfl ?_
          show oS p e below T90 (mkF m 164 #[iv p0, iv p1, iv p2, iv (own_c p0), iv (own_c p1), iv (own_c p2), rv b1, rv as13, rv b15, rv b36, iv (own_fv []), iv ((own_fv [(own_c p0)])), iv ((own_fv [(own_c p0), (own_c p1)])), iv ((own_fv [(own_c p0), (own_c p1), (own_c p2)])), iv ((own_ok (own_c p0))), iv 1, iv 1] [(.int (own_fv [(own_c p0), (own_c p1)]))]) _
          refine XS.iload X90.here hx rfl (hb hby at_164) rfl ?_
          refine XS.icmpNo X90.here hx rfl (hb hby at_166) rfl (XT.ii_ne_f (by simp [own_fstep, own_fend, hc112_84, own_ok1 hc112_84, hc120_88, own_ok1 hc120_88, hc140_92, own_ok1 hc140_92])) ?_
          refine XS.iload X90.here hx rfl (hb hby at_169) rfl ?_
          refine XS.iload X90.here hx rfl (hb hby at_171) rfl ?_
          refine XS.icmpNo X90.here hx rfl (hb hby at_173) rfl (XT.ii_ne_f (by simp [own_fstep, own_fend, hc112_84, own_ok1 hc112_84, hc120_88, own_ok1 hc120_88, hc140_92, own_ok1 hc140_92])) ?_
          refine XT.iconstV X90.here hx rfl (1 : Int32) (hb hby at_176) (by decide) ?_
          refine XS.goto X90.here hx rfl (pc0 := 177) (pc' := 181) rfl (hb hby at_177) (by decide) (by decide) ?_
          exact k)
        obtain ⟨fs, hr, hrun, hended, hEnd⟩ := X90.leaveW hS6 (by rw [e90]; exact (Nat.le_trans (Nat.le_trans (Nat.le_trans (Nat.le_trans (Nat.le_trans (Nat.le_trans (Nat.le_trans (Nat.le_trans (Nat.le_trans (Nat.le_trans (Nat.le_trans (Nat.le_trans (Nat.le_refl _) K13.1) E15.1) E19.1) (Nat.le_of_eq W25.size.symm)) (Nat.le_of_eq W27.size.symm)) K35.1) E36.1) E43.1) (Nat.le_of_eq W51.size.symm)) (Nat.le_of_eq W53.size.symm)) (Nat.le_of_eq W55.size.symm)) K63.1)) (v := some (.int 1)) (fun h => by rw [Bd.returns] at h; cases h)
        refine ⟨_, _, pre0 _ (S94 _ ?_), hrun, hended, _, _, rfl, ?_, hEnd.1, hEnd.2.1, hEnd.2.2.1, hEnd.2.2.2.mono (by decide) (by decide)⟩
        · exact retN X90 hx (t := .boolean) Bd.returns (by simp) (hb hby at_181) hr
        · show Qrm0 Z p0 p1 p2 wC fm h0 n0 _ T90.heap _
          rw [e90]
          exact ⟨rfl, N90⟩
set_option maxRecDepth 65536 in
set_option maxHeartbeats 40000000 in
theorem comes_1 {Post : Tables → Env → Array Value → State → Outcome → State → Prop} (hpost : ∀ tb e args s v u, (limb_1_1.after args s (.returned v) u = true ∧ limb_1_2.after args s (.returned v) u = true ∧ True) → Jvm.ReturnedEndW s (.returned v) u (Jvm.fieldLocs frame_1_writes args s ++ Jvm.arrayLocs frame_1_arrays args s ++ Jvm.staticLocs frame_1_statics s) 40 1216 → Post tb e args s (.returned v) u) :
    ArmFor flags0 classFile x code maxLocals ret World_1 tables_1 room_1 Calls_1 rest_1 Pre_1 Post := by
  intro l hfl _ _ p e ha hc hk s m args below hf hA hF happ hP
  obtain ⟨hcalls, hrest, hpre⟩ := hP
  obtain ⟨-, -, -, hnamed, -, -, -, hat⟩ := (Spec.applies_iff hf).mp happ
  obtain ⟨hg, hn⟩ := and_e (Cond.before_iff.mp (show (Jvm.Cond.and given_1 narrow_1).before args s = true from hpre))
  obtain ⟨g0, r0⟩ := and_e hg
  obtain ⟨g1, r1⟩ := and_e r0
  obtain ⟨g2, r2⟩ := and_e r1
  obtain ⟨w0, w1, w2, rfl⟩ : ∃ w0 w1 w2 : Value, args = #[w0, w1, w2] := by
    have hs : args.size = 3 := by simpa [Cond.value, given_1] using g0
    obtain ⟨L⟩ := args
    match L, hs with
    | [w0, w1, w2], _ => exact ⟨w0, w1, w2, rfl⟩
  have hw := fun d (hd : d ∈ tables_1) => atoms_spec (ws := Jvm.Cond.code x code maxLocals ret :: tables_1) hat d (List.mem_cons_of_mem _ hd)
  have hfit : Fit s := fun {y c} hc i hi => by
    obtain ⟨ha, rfl⟩ := Array.getElem?_eq_some_iff.mp hc
    have q := List.all_eq_true.mp ((Array.all_eq_true_iff_forall_mem.mp hF) _ (Array.getElem_mem ha)) i (List.mem_range.mpr hi)
    simpa [Array.getElem?_eq_getElem hi] using q
  obtain ⟨i0, ei0⟩ := is_v g1
  obtain rfl : w0 = (.int i0) := Option.some.inj ei0
  obtain ⟨i1, ei1⟩ := is_v g2
  obtain rfl : w1 = (.int i1) := Option.some.inj ei1
  obtain ⟨i2, ei2⟩ := is_v r2
  obtain rfl : w2 = (.int i2) := Option.some.inj ei2
  have hr0 := Cond.before_iff.mp (show rest_1_c.before _ s = true from hrest)
  obtain ⟨u0, hr1⟩ := and_e hr0
  obtain ⟨u1, hr2⟩ := and_e hr1
  obtain ⟨u2, hr3⟩ := and_e hr2
  obtain ⟨u3, hr4⟩ := and_e hr3
  obtain ⟨u4, hr5⟩ := and_e hr4
  obtain ⟨u5, hr6⟩ := and_e hr5
  obtain ⟨u6, hr7⟩ := and_e hr6
  obtain ⟨u7, hr8⟩ := and_e hr7
  obtain ⟨u8, hr9⟩ := and_e hr8
  obtain ⟨u9, hr10⟩ := and_e hr9
  obtain ⟨u10, hr11⟩ := and_e hr10
  obtain ⟨u11, hr12⟩ := and_e hr11
  obtain ⟨u12, hr13⟩ := and_e hr12
  obtain ⟨u13, hr14⟩ := and_e hr13
  obtain ⟨u14, hr15⟩ := and_e hr14
  obtain ⟨u15, hr16⟩ := and_e hr15
  obtain ⟨u16, hr17⟩ := and_e hr16
  obtain ⟨u17, hr18⟩ := and_e hr17
  obtain ⟨u18, hr19⟩ := and_e hr18
  obtain ⟨wC, evC⟩ := is_v u1
  have hSC := Sta.start evC (Or.inl (Cond.before_iff.mpr u0))
  have hwC : ¬ wC = (0 : Int32) := gotF (Cond.eq_ints evC (Term.int_eval 0)) (not_v u2)
  have hcH : Jvm.Lit.constHeld s "java/lang/String" 7 := (show ∀ p ∈ consts_1, Jvm.Lit.constHeld s p.1 p.2 from hcalls.1) _ (List.mem_of_getElem? (i := 0) rfl)
  have hcw : Jvm.Lit.compactW.before _ s = true := Cond.before_iff.mpr u2
  obtain ⟨fm, evF, hfm⟩ := isR_v u8
  have hF := Sta.start evF (Or.inl (Cond.before_iff.mpr u7))
  have sA := Sta.start (Cond.eq_int (Cond.before_iff.mpr u12) rfl) (Or.inl (Cond.before_iff.mpr u11))
  have sH := Sta.start (Cond.eq_int (Cond.before_iff.mpr u15) rfl) (Or.inl (Cond.before_iff.mpr u14))
  have sL := Sta.start (Cond.eq_int (Cond.before_iff.mpr u18) rfl) (Or.inl (Cond.before_iff.mpr u17))
  obtain ⟨n, o, h1, h2, h3, _, L, rfl, ⟨rfl, N⟩, hq⟩ := rm0 l s _ hw tables_1 i0 i1 i2 wC fm s.heap s.heap.size (Nat.le_refl _) hSC hwC hfm hF sA sH sL (fun _ _ q => q) hcH hcw p e ha hc hk s m _ below hf ((Spec.applies_iff_loose hf).mp happ).1 ⟨rfl, State.Warmed39.refl s, rfl, IB.start⟩ trivial
  refine ⟨n, _, h1, h2, h3, hpost _ _ _ _ _ _ ⟨Cond.after_iff.mpr rfl, Cond.after_iff.mpr (eq_i res_at (Term.int_eval (1)) rfl), trivial⟩ ⟨hq.1, hq.2.1, hq.2.2.1, (hq.2.2.2.sift fun y hy => Or.inr (N y hy)).mono (by decide) (by decide)⟩⟩
theorem main_1_1 : Claimed_1_1 := comes_1 fun _ _ _ _ _ _ h hF => ⟨h.1, hF⟩
theorem main_1_2 : Claimed_1_2 := comes_1 fun _ _ _ _ _ _ h hF => ⟨h.2.1, hF⟩
end Jvm.Pilot.@@N@@
namespace Jvm.Pilot.@@N@@
open Jvm Jvm.ClassFile Sem Op Lib Jvm.Free Jvm.Stand Jvm.Pilot.@@N@@.Jvm.D
/-! MADE BY PROGRAM (witnessworld.py) out of the Statement's table words and the real class files: 22 classes; the members and pool entries that the words name. The judged class is class 1, her method 2. -/
namespace start1
open Jvm.ClassFile
def u (s : String) : CpInfo := .utf8 (stringToUtf16 s)
/-- a pool by its gaps: so many unusable entries, then the entry; so many at the end -/
def gap : Nat → List CpInfo → List CpInfo
  | 0, r => r
  | n + 1, r => .unusable :: gap n r
def poolList (es : List (Nat × CpInfo)) (last : Nat) : List CpInfo := es.foldr (fun e r => gap e.1 (e.2 :: r)) (gap last [])
def pool (es : List (Nat × CpInfo)) (last : Nat) : Array CpInfo := ⟨poolList es last⟩
def fileOf (pool : Array CpInfo) (this : Nat) (attrs : Array Attribute := #[]) (ms : Array MethodInfo := #[]) (fl : Nat := 33) (sup : Nat := 0) (ifs : Array Nat := #[]) (fds : Array FieldInfo := #[]) : ClassFile where
  minorVersion := 0
  majorVersion := 65
  constantPool := pool
  accessFlags := fl
  thisClass := this
  superClass := sup
  interfaces := ifs
  fields := fds
  methods := ms
  attributes := attrs
def plain (name : String) (sup : Option ClassId) : Class where
  name := name
  kind := .ordinary
  loader := none
  accessFlags := 33
  super := sup
  interfaces := #[]
  cf := none
  fields := #[]
  methods := #[]
  instanceTypes := #[]
  staticTypes := #[]
  resolved := #[]
  callSites := []
  init := .initialized
  statics := none
  mirror := none

def pool0 : Array CpInfo := pool [(5, u "<init>"), (0, u "()V"), (1, .class_ 10), (1, u "java/lang/Object")] 113

def k0c0 : Code := { maxStack := 0, maxLocals := 1, code := object_method_1_code, exceptionTable := #[], attributes := #[] }
def k0m0 : Method := { name := "<init>", desc := "()V", sig := { parameters := [], returnType := none }, accessFlags := 1, code := some k0c0 }
/-- java/lang/Object -/
def k0 : Class := { plain "java/lang/Object" none with
  accessFlags := 33
  interfaces := #[]
  cf := some (fileOf pool0 8 #[] #[{ accessFlags := 1, nameIndex := 5, descriptorIndex := 6, attributes := #[] }] 33 0 #[] #[])
  fields := #[]
  methods := #[k0m0]
  instanceTypes := #[]
  staticTypes := #[]
  resolved := Array.replicate 124 none
  statics := none }

def pool1 : Array CpInfo := pool [(2, .class_ 4), (1, u "java/lang/Object"), (0, u "<init>"), (0, u "()V"), (0, .class_ 8), (0, u "java/lang/String"), (0, .methodref 7 10), (0, .nameAndType 5 11), (0, u "([C)V"), (0, .methodref 7 13), (0, .nameAndType 14 15), (0, u "valueOf"), (0, u "(C)Ljava/lang/String;"), (0, .methodref 17 18), (0, .class_ 19), (0, .nameAndType 20 21), (0, u "com/example/headwater/headwater/core/HttpFields"), (0, u "isFieldValue"), (0, u "(Ljava/lang/String;)Z"), (0, .methodref 23 24), (0, .class_ 25), (0, .nameAndType 26 27), (0, u "com/example/headwater/headwater/core/HttpFieldsIsFieldValuePinLaw"), (0, u "ok"), (0, u "(C)Z"), (3, u "law"), (0, u "(III)Z")] 2

def k1m0 : Method := { name := "<init>", desc := "()V", sig := { parameters := [], returnType := none }, accessFlags := 1, code := none }
def k1c1 : Code := { maxStack := 2, maxLocals := 1, code := method_2_code, exceptionTable := #[], attributes := #[] }
def k1m1 : Method := { name := "ok", desc := "(C)Z", sig := { parameters := [.char], returnType := some .boolean }, accessFlags := 10, code := some k1c1 }
def k1c2 : Code := { maxStack := 6, maxLocals := 17, code := code, exceptionTable := #[], attributes := #[] }
def k1m2 : Method := { name := "law", desc := "(III)Z", sig := { parameters := [.int, .int, .int], returnType := some .boolean }, accessFlags := 9, code := some k1c2 }
/-- com/example/headwater/headwater/core/HttpFieldsIsFieldValuePinLaw -/
def k1 : Class := { plain "com/example/headwater/headwater/core/HttpFieldsIsFieldValuePinLaw" (some 0) with
  accessFlags := 49
  interfaces := #[]
  cf := some (fileOf pool1 23 #[] #[{ accessFlags := 1, nameIndex := 5, descriptorIndex := 6, attributes := #[] }, { accessFlags := 10, nameIndex := 26, descriptorIndex := 27, attributes := #[] }, { accessFlags := 9, nameIndex := 31, descriptorIndex := 32, attributes := #[] }] 49 2 #[] #[])
  fields := #[]
  methods := #[k1m0, k1m1, k1m2]
  instanceTypes := #[]
  staticTypes := #[]
  resolved := Array.replicate 35 none
  statics := none }

def pool2 : Array CpInfo := pool [(1, .class_ 2), (0, u "java/io/Serializable"), (0, .class_ 4), (0, u "java/lang/Object")] 2

/-- java/io/Serializable -/
def k2 : Class := { plain "java/io/Serializable" (some 0) with
  accessFlags := 1537
  interfaces := #[]
  cf := some (fileOf pool2 1 #[] #[] 1537 3 #[] #[])
  fields := #[]
  methods := #[]
  instanceTypes := #[]
  staticTypes := #[]
  resolved := Array.replicate 7 none
  statics := none }

def pool3 : Array CpInfo := pool [(1, .class_ 2), (0, u "java/lang/Comparable"), (0, .class_ 4), (0, u "java/lang/Object")] 7

/-- java/lang/Comparable -/
def k3 : Class := { plain "java/lang/Comparable" (some 0) with
  accessFlags := 1537
  interfaces := #[]
  cf := some (fileOf pool3 1 #[] #[] 1537 3 #[] #[])
  fields := #[]
  methods := #[]
  instanceTypes := #[]
  staticTypes := #[]
  resolved := Array.replicate 12 none
  statics := none }

def pool4 : Array CpInfo := pool [(2, .class_ 4), (1, u "java/lang/CharSequence"), (42, .class_ 48), (0, u "java/lang/CharSequence$1CodePointIterator"), (10, .class_ 60), (0, u "java/lang/CharSequence$1CharIterator"), (5, .class_ 67), (0, u "java/lang/Object")] 63

/-- java/lang/CharSequence -/
def k4 : Class := { plain "java/lang/CharSequence" (some 0) with
  accessFlags := 1537
  interfaces := #[]
  cf := some (fileOf pool4 2 #[.nestMembers #[47, 59]] #[] 1537 66 #[] #[])
  fields := #[]
  methods := #[]
  instanceTypes := #[]
  staticTypes := #[]
  resolved := Array.replicate 131 none
  statics := none }

def pool5 : Array CpInfo := pool [(1, .class_ 2), (0, u "java/lang/constant/Constable"), (0, .class_ 4), (0, u "java/lang/Object")] 6

/-- java/lang/constant/Constable -/
def k5 : Class := { plain "java/lang/constant/Constable" (some 0) with
  accessFlags := 1537
  interfaces := #[]
  cf := some (fileOf pool5 1 #[] #[] 1537 3 #[] #[])
  fields := #[]
  methods := #[]
  instanceTypes := #[]
  staticTypes := #[]
  resolved := Array.replicate 11 none
  statics := none }

def pool6 : Array CpInfo := pool [(1, .class_ 2), (0, u "java/lang/constant/ConstantDesc"), (0, .class_ 4), (0, u "java/lang/Object")] 32

/-- java/lang/constant/ConstantDesc -/
def k6 : Class := { plain "java/lang/constant/ConstantDesc" (some 0) with
  accessFlags := 1537
  interfaces := #[]
  cf := some (fileOf pool6 1 #[] #[] 1537 3 #[] #[])
  fields := #[]
  methods := #[]
  instanceTypes := #[]
  staticTypes := #[]
  resolved := Array.replicate 37 none
  statics := none }

def pool7 : Array CpInfo := pool [(1, .methodref 2 3), (0, .class_ 4), (0, .nameAndType 5 6), (0, u "java/lang/Object"), (0, u "<init>"), (0, u "()V"), (0, .string 8), (0, u ""), (0, .fieldref 10 11), (0, .class_ 12), (0, .nameAndType 13 14), (0, u "java/lang/String"), (0, u "value"), (0, u "[B"), (0, .fieldref 10 16), (0, .nameAndType 17 18), (0, u "coder"), (0, u "B"), (2, u "hash"), (0, u "I"), (2, u "hashIsZero"), (0, u "Z"), (0, .methodref 10 28), (0, .nameAndType 5 29), (0, u "([CIILjava/lang/Void;)V"), (8, .fieldref 10 39), (0, .nameAndType 40 26), (0, u "COMPACT_STRINGS"), (1, .class_ 44), (1, u "java/lang/StringUTF16"), (0, u "compress"), (1, .methodref 42 48), (0, .nameAndType 49 50), (0, u "coderFromArrayLen"), (0, u "([BI)B"), (2, u "toBytes"), (53, .class_ 109), (1, u "java/lang/StringLatin1"), (32, u "()Z"), (34, .methodref 42 178), (0, .nameAndType 45 179), (0, u "([CII)[B"), (29, .methodref 10 210), (0, .nameAndType 5 211), (0, u "([BB)V"), (122, u "()I"), (0, .methodref 10 336), (0, .nameAndType 17 337), (0, u "()B"), (25, u "([BI)C"), (5, u "(C)Z"), (21, u "(II)V"), (35, u "(I)C"), (64, .methodref 10 493), (0, .nameAndType 494 142), (0, u "isLatin1"), (0, .methodref 107 496), (0, .nameAndType 497 363), (0, u "charAt"), (0, .methodref 42 496), (2, u "checkIndex"), (5, u "length"), (67, .class_ 576), (0, u "java/lang/CharSequence"), (22, u "CASE_INSENSITIVE_ORDER"), (0, u "Ljava/util/Comparator;"), (181, u "valueOf"), (0, u "(C)Ljava/lang/String;"), (226, u "([C)V"), (4, .methodref 107 1016), (0, .nameAndType 1017 369), (0, u "canEncode"), (0, .methodref 107 1019), (0, .nameAndType 53 1020), (0, u "(C)[B"), (0, .methodref 42 1019), (31, .fieldref 1054 1055), (0, .class_ 1056), (0, .nameAndType 1057 1058), (0, u "jdk/internal/util/Preconditions"), (0, u "SIOOBE_FORMATTER"), (0, u "Ljava/util/function/BiFunction;"), (0, .methodref 1054 1060), (0, .nameAndType 501 1061), (0, u "(IILjava/util/function/BiFunction;)I"), (39, u "serialPersistentFields"), (0, u "[Ljava/io/ObjectStreamField;"), (0, .class_ 1104), (0, u "java/lang/String$CaseInsensitiveComparator"), (1, .class_ 1107), (0, u "java/io/Serializable"), (0, .class_ 1109), (0, u "java/lang/Comparable"), (0, .class_ 1111), (0, u "java/lang/constant/Constable"), (0, .class_ 1113), (0, u "java/lang/constant/ConstantDesc"), (2, u "serialVersionUID"), (0, u "J"), (3, u "REPL"), (0, u "C"), (2, u "LATIN1"), (1, u "UTF16")] 323

def k7m0 : Method := { name := "<init>", desc := "()V", sig := { parameters := [], returnType := none }, accessFlags := 1, code := none }
def k7c1 : Code := { maxStack := 5, maxLocals := 2, code := jdk_42_method_3_code, exceptionTable := #[], attributes := #[] }
def k7m1 : Method := { name := "<init>", desc := "([C)V", sig := { parameters := [(.array .char)], returnType := none }, accessFlags := 1, code := some k7c1 }
def k7c2 : Code := { maxStack := 2, maxLocals := 1, code := jdk_42_method_54_code, exceptionTable := #[], attributes := #[] }
def k7m2 : Method := { name := "length", desc := "()I", sig := { parameters := [], returnType := some .int }, accessFlags := 1, code := some k7c2 }
def k7c3 : Code := { maxStack := 2, maxLocals := 2, code := jdk_42_method_56_code, exceptionTable := #[], attributes := #[] }
def k7m3 : Method := { name := "charAt", desc := "(I)C", sig := { parameters := [.int], returnType := some .char }, accessFlags := 1, code := some k7c3 }
def k7c4 : Code := { maxStack := 4, maxLocals := 1, code := jdk_42_method_139_code, exceptionTable := #[], attributes := #[] }
def k7m4 : Method := { name := "valueOf", desc := "(C)Ljava/lang/String;", sig := { parameters := [.char], returnType := some (.object "java/lang/String") }, accessFlags := 9, code := some k7c4 }
def k7c5 : Code := { maxStack := 4, maxLocals := 6, code := jdk_42_method_149_code, exceptionTable := #[], attributes := #[] }
def k7m5 : Method := { name := "<init>", desc := "([CIILjava/lang/Void;)V", sig := { parameters := [(.array .char), .int, .int, (.object "java/lang/Void")], returnType := none }, accessFlags := 2, code := some k7c5 }
def k7c6 : Code := { maxStack := 2, maxLocals := 3, code := jdk_42_method_151_code, exceptionTable := #[], attributes := #[] }
def k7m6 : Method := { name := "<init>", desc := "([BB)V", sig := { parameters := [(.array .byte), .byte], returnType := none }, accessFlags := 0, code := some k7c6 }
def k7c7 : Code := { maxStack := 1, maxLocals := 1, code := jdk_42_method_152_code, exceptionTable := #[], attributes := #[] }
def k7m7 : Method := { name := "coder", desc := "()B", sig := { parameters := [], returnType := some .byte }, accessFlags := 0, code := some k7c7 }
def k7c8 : Code := { maxStack := 1, maxLocals := 1, code := jdk_42_method_154_code, exceptionTable := #[], attributes := #[] }
def k7m8 : Method := { name := "isLatin1", desc := "()Z", sig := { parameters := [], returnType := some .boolean }, accessFlags := 0, code := some k7c8 }
def k7c9 : Code := { maxStack := 3, maxLocals := 2, code := jdk_42_method_155_code, exceptionTable := #[], attributes := #[] }
def k7m9 : Method := { name := "checkIndex", desc := "(II)V", sig := { parameters := [.int, .int], returnType := none }, accessFlags := 8, code := some k7c9 }
/-- java/lang/String -/
def k7 : Class := { plain "java/lang/String" (some 0) with
  accessFlags := 49
  interfaces := #[2, 3, 4, 5, 6]
  cf := some (fileOf pool7 10 #[.nestMembers #[1103]] #[{ accessFlags := 1, nameIndex := 5, descriptorIndex := 6, attributes := #[] }, { accessFlags := 1, nameIndex := 5, descriptorIndex := 1010, attributes := #[] }, { accessFlags := 1, nameIndex := 507, descriptorIndex := 334, attributes := #[] }, { accessFlags := 1, nameIndex := 497, descriptorIndex := 427, attributes := #[] }, { accessFlags := 9, nameIndex := 782, descriptorIndex := 783, attributes := #[] }, { accessFlags := 2, nameIndex := 5, descriptorIndex := 29, attributes := #[] }, { accessFlags := 0, nameIndex := 5, descriptorIndex := 211, attributes := #[] }, { accessFlags := 0, nameIndex := 17, descriptorIndex := 337, attributes := #[] }, { accessFlags := 0, nameIndex := 494, descriptorIndex := 142, attributes := #[] }, { accessFlags := 8, nameIndex := 501, descriptorIndex := 391, attributes := #[] }] 49 2 #[1106, 1108, 575, 1110, 1112] #[{ accessFlags := 18, nameIndex := 13, descriptorIndex := 14, attributes := #[] }, { accessFlags := 18, nameIndex := 17, descriptorIndex := 18, attributes := #[] }, { accessFlags := 2, nameIndex := 21, descriptorIndex := 22, attributes := #[] }, { accessFlags := 2, nameIndex := 25, descriptorIndex := 26, attributes := #[] }, { accessFlags := 26, nameIndex := 1116, descriptorIndex := 1117, attributes := #[] }, { accessFlags := 24, nameIndex := 40, descriptorIndex := 26, attributes := #[] }, { accessFlags := 26, nameIndex := 1101, descriptorIndex := 1102, attributes := #[] }, { accessFlags := 26, nameIndex := 1121, descriptorIndex := 1122, attributes := #[] }, { accessFlags := 25, nameIndex := 599, descriptorIndex := 600, attributes := #[] }, { accessFlags := 24, nameIndex := 1125, descriptorIndex := 18, attributes := #[] }, { accessFlags := 24, nameIndex := 1127, descriptorIndex := 18, attributes := #[] }])
  fields := #[{ name := "value", type := (.array .byte), accessFlags := 18, slot := 0, constantValue := 0 }, { name := "coder", type := .byte, accessFlags := 18, slot := 1, constantValue := 0 }, { name := "hash", type := .int, accessFlags := 2, slot := 2, constantValue := 0 }, { name := "hashIsZero", type := .boolean, accessFlags := 2, slot := 3, constantValue := 0 }, { name := "serialVersionUID", type := .long, accessFlags := 26, slot := 0, constantValue := 0 }, { name := "COMPACT_STRINGS", type := .boolean, accessFlags := 24, slot := 1, constantValue := 0 }, { name := "serialPersistentFields", type := (.array (.object "java/io/ObjectStreamField")), accessFlags := 26, slot := 2, constantValue := 0 }, { name := "REPL", type := .char, accessFlags := 26, slot := 3, constantValue := 0 }, { name := "CASE_INSENSITIVE_ORDER", type := (.object "java/util/Comparator"), accessFlags := 25, slot := 4, constantValue := 0 }, { name := "LATIN1", type := .byte, accessFlags := 24, slot := 5, constantValue := 0 }, { name := "UTF16", type := .byte, accessFlags := 24, slot := 6, constantValue := 0 }]
  methods := #[k7m0, k7m1, k7m2, k7m3, k7m4, k7m5, k7m6, k7m7, k7m8, k7m9]
  instanceTypes := #[(.array .byte), .byte, .int, .boolean]
  staticTypes := #[.long, .boolean, (.array (.object "java/io/ObjectStreamField")), .char, (.object "java/util/Comparator"), .byte, .byte]
  resolved := Array.replicate 1451 none
  statics := some 0 }

def pool8 : Array CpInfo := pool [(1, .class_ 2), (0, u "java/lang/String"), (1, .class_ 6), (1, u "java/lang/Object"), (0, u "<init>"), (0, u "()V"), (0, .methodref 1 10), (0, .nameAndType 11 12), (0, u "checkIndex"), (0, u "(II)V"), (1, .class_ 16), (1, u "java/lang/StringLatin1"), (36, u "([BI)C"), (36, u "canEncode"), (14, u "(C)Z"), (15, u "$assertionsDisabled"), (0, u "Z"), (98, .class_ 223), (1, u "java/lang/StringLatin1$LinesSpliterator"), (28, u "charAt"), (127, u "toBytes"), (1, u "(C)[B"), (7, .class_ 391), (0, u "java/lang/StringLatin1$CharsSpliterator")] 3

def k8m0 : Method := { name := "<init>", desc := "()V", sig := { parameters := [], returnType := none }, accessFlags := 0, code := none }
def k8c1 : Code := { maxStack := 2, maxLocals := 2, code := jdk_43_method_2_code, exceptionTable := #[], attributes := #[] }
def k8m1 : Method := { name := "charAt", desc := "([BI)C", sig := { parameters := [(.array .byte), .int], returnType := some .char }, accessFlags := 9, code := some k8c1 }
def k8c2 : Code := { maxStack := 2, maxLocals := 1, code := jdk_43_method_3_code, exceptionTable := #[], attributes := #[] }
def k8m2 : Method := { name := "canEncode", desc := "(C)Z", sig := { parameters := [.char], returnType := some .boolean }, accessFlags := 9, code := some k8c2 }
def k8c3 : Code := { maxStack := 4, maxLocals := 1, code := jdk_43_method_46_code, exceptionTable := #[], attributes := #[] }
def k8m3 : Method := { name := "toBytes", desc := "(C)[B", sig := { parameters := [.char], returnType := some (.array .byte) }, accessFlags := 9, code := some k8c3 }
/-- java/lang/StringLatin1 -/
def k8 : Class := { plain "java/lang/StringLatin1" (some 0) with
  accessFlags := 48
  interfaces := #[]
  cf := some (fileOf pool8 14 #[.nestMembers #[390, 221]] #[{ accessFlags := 0, nameIndex := 7, descriptorIndex := 8, attributes := #[] }, { accessFlags := 9, nameIndex := 252, descriptorIndex := 53, attributes := #[] }, { accessFlags := 9, nameIndex := 90, descriptorIndex := 105, attributes := #[] }, { accessFlags := 9, nameIndex := 380, descriptorIndex := 382, attributes := #[] }] 48 4 #[] #[{ accessFlags := 4120, nameIndex := 121, descriptorIndex := 122, attributes := #[] }])
  fields := #[{ name := "$assertionsDisabled", type := .boolean, accessFlags := 4120, slot := 0, constantValue := 0 }]
  methods := #[k8m0, k8m1, k8m2, k8m3]
  instanceTypes := #[]
  staticTypes := #[.boolean]
  resolved := Array.replicate 395 none
  statics := none }

def pool9 : Array CpInfo := pool [(3, .class_ 4), (0, u "java/lang/String"), (1, .class_ 8), (1, u "java/lang/Object"), (0, u "<init>"), (0, u "()V"), (0, .methodref 12 13), (0, .class_ 14), (0, .nameAndType 15 16), (0, u "java/lang/StringUTF16"), (0, u "newBytesLength"), (0, u "(I)I"), (3, .integer 1073741823), (23, .fieldref 12 45), (0, .nameAndType 46 47), (0, u "$assertionsDisabled"), (0, u "Z"), (0, .methodref 12 49), (0, .nameAndType 50 51), (0, u "length"), (0, u "([B)I"), (7, .fieldref 12 60), (0, .nameAndType 61 62), (0, u "HI_BYTE_SHIFT"), (0, u "I"), (0, .fieldref 12 64), (0, .nameAndType 65 62), (0, u "LO_BYTE_SHIFT"), (1, .methodref 12 68), (0, .nameAndType 69 70), (0, u "checkIndex"), (0, u "(I[B)V"), (0, .methodref 12 72), (0, .nameAndType 73 74), (0, u "getChar"), (0, u "([BI)C"), (32, .methodref 12 108), (0, .nameAndType 109 110), (0, u "newBytesFor"), (0, u "(I)[B"), (0, .methodref 12 112), (0, .nameAndType 113 114), (0, u "putChar"), (0, u "([BII)V"), (0, .methodref 12 116), (0, .nameAndType 117 118), (0, u "compress"), (0, u "([CI[BII)I"), (0, .methodref 12 120), (0, .nameAndType 121 122), (0, u "toBytes"), (0, u "([CII)[B"), (138, u "coderFromArrayLen"), (0, u "([BI)B"), (106, .class_ 371), (1, u "java/lang/StringUTF16$LinesSpliterator"), (20, u "charAt"), (21, .methodref 3 415), (0, .nameAndType 69 416), (0, u "(II)V"), (13, u "MAX_LENGTH"), (44, u "(C)[B"), (151, .class_ 628), (0, u "java/lang/StringUTF16$CodePointsSpliterator"), (0, .class_ 630), (0, u "java/lang/StringUTF16$CharsSpliterator")] 4

def k9m0 : Method := { name := "<init>", desc := "()V", sig := { parameters := [], returnType := none }, accessFlags := 0, code := none }
def k9c1 : Code := { maxStack := 1, maxLocals := 1, code := jdk_52_method_2_code, exceptionTable := #[], attributes := #[] }
def k9m1 : Method := { name := "newBytesFor", desc := "(I)[B", sig := { parameters := [.int], returnType := some (.array .byte) }, accessFlags := 9, code := some k9c1 }
def k9c2 : Code := { maxStack := 4, maxLocals := 1, code := jdk_52_method_3_code, exceptionTable := #[], attributes := #[] }
def k9m2 : Method := { name := "newBytesLength", desc := "(I)I", sig := { parameters := [.int], returnType := some .int }, accessFlags := 9, code := some k9c2 }
def k9c3 : Code := { maxStack := 4, maxLocals := 3, code := jdk_52_method_4_code, exceptionTable := #[], attributes := #[] }
def k9m3 : Method := { name := "putChar", desc := "([BII)V", sig := { parameters := [(.array .byte), .int, .int], returnType := none }, accessFlags := 8, code := some k9c3 }
def k9c4 : Code := { maxStack := 3, maxLocals := 2, code := jdk_52_method_5_code, exceptionTable := #[], attributes := #[] }
def k9m4 : Method := { name := "getChar", desc := "([BI)C", sig := { parameters := [(.array .byte), .int], returnType := some .char }, accessFlags := 8, code := some k9c4 }
def k9c5 : Code := { maxStack := 2, maxLocals := 1, code := jdk_52_method_6_code, exceptionTable := #[], attributes := #[] }
def k9m5 : Method := { name := "length", desc := "([B)I", sig := { parameters := [(.array .byte)], returnType := some .int }, accessFlags := 9, code := some k9c5 }
def k9c6 : Code := { maxStack := 4, maxLocals := 5, code := jdk_52_method_14_code, exceptionTable := #[], attributes := #[] }
def k9m6 : Method := { name := "toBytes", desc := "([CII)[B", sig := { parameters := [(.array .char), .int, .int], returnType := some (.array .byte) }, accessFlags := 9, code := some k9c6 }
def k9c7 : Code := { maxStack := 2, maxLocals := 2, code := jdk_52_method_15_code, exceptionTable := #[], attributes := #[] }
def k9m7 : Method := { name := "coderFromArrayLen", desc := "([BI)B", sig := { parameters := [(.array .byte), .int], returnType := some .byte }, accessFlags := 8, code := some k9c7 }
def k9c8 : Code := { maxStack := 5, maxLocals := 6, code := jdk_52_method_16_code, exceptionTable := #[], attributes := #[] }
def k9m8 : Method := { name := "compress", desc := "([CII)[B", sig := { parameters := [(.array .char), .int, .int], returnType := some (.array .byte) }, accessFlags := 9, code := some k9c8 }
def k9c9 : Code := { maxStack := 3, maxLocals := 7, code := jdk_52_method_21_code, exceptionTable := #[], attributes := #[] }
def k9m9 : Method := { name := "compress", desc := "([CI[BII)I", sig := { parameters := [(.array .char), .int, (.array .byte), .int, .int], returnType := some .int }, accessFlags := 9, code := some k9c9 }
def k9c10 : Code := { maxStack := 3, maxLocals := 2, code := jdk_52_method_24_code, exceptionTable := #[], attributes := #[] }
def k9m10 : Method := { name := "toBytes", desc := "(C)[B", sig := { parameters := [.char], returnType := some (.array .byte) }, accessFlags := 9, code := some k9c10 }
def k9c11 : Code := { maxStack := 2, maxLocals := 2, code := jdk_52_method_83_code, exceptionTable := #[], attributes := #[] }
def k9m11 : Method := { name := "charAt", desc := "([BI)C", sig := { parameters := [(.array .byte), .int], returnType := some .char }, accessFlags := 9, code := some k9c11 }
def k9c12 : Code := { maxStack := 2, maxLocals := 2, code := jdk_52_method_91_code, exceptionTable := #[], attributes := #[] }
def k9m12 : Method := { name := "checkIndex", desc := "(I[B)V", sig := { parameters := [.int, (.array .byte)], returnType := none }, accessFlags := 9, code := some k9c12 }
/-- java/lang/StringUTF16 -/
def k9 : Class := { plain "java/lang/StringUTF16" (some 0) with
  accessFlags := 48
  interfaces := #[]
  cf := some (fileOf pool9 12 #[.nestMembers #[627, 629, 369]] #[{ accessFlags := 0, nameIndex := 9, descriptorIndex := 10, attributes := #[] }, { accessFlags := 9, nameIndex := 109, descriptorIndex := 110, attributes := #[] }, { accessFlags := 9, nameIndex := 15, descriptorIndex := 16, attributes := #[] }, { accessFlags := 8, nameIndex := 113, descriptorIndex := 114, attributes := #[] }, { accessFlags := 8, nameIndex := 73, descriptorIndex := 74, attributes := #[] }, { accessFlags := 9, nameIndex := 50, descriptorIndex := 51, attributes := #[] }, { accessFlags := 9, nameIndex := 121, descriptorIndex := 122, attributes := #[] }, { accessFlags := 8, nameIndex := 261, descriptorIndex := 262, attributes := #[] }, { accessFlags := 9, nameIndex := 117, descriptorIndex := 122, attributes := #[] }, { accessFlags := 9, nameIndex := 117, descriptorIndex := 118, attributes := #[] }, { accessFlags := 9, nameIndex := 121, descriptorIndex := 475, attributes := #[] }, { accessFlags := 9, nameIndex := 392, descriptorIndex := 74, attributes := #[] }, { accessFlags := 9, nameIndex := 69, descriptorIndex := 70, attributes := #[] }] 48 6 #[] #[{ accessFlags := 26, nameIndex := 61, descriptorIndex := 62, attributes := #[] }, { accessFlags := 26, nameIndex := 65, descriptorIndex := 62, attributes := #[] }, { accessFlags := 24, nameIndex := 430, descriptorIndex := 62, attributes := #[] }, { accessFlags := 4120, nameIndex := 46, descriptorIndex := 47, attributes := #[] }])
  fields := #[{ name := "HI_BYTE_SHIFT", type := .int, accessFlags := 26, slot := 0, constantValue := 0 }, { name := "LO_BYTE_SHIFT", type := .int, accessFlags := 26, slot := 1, constantValue := 0 }, { name := "MAX_LENGTH", type := .int, accessFlags := 24, slot := 2, constantValue := 0 }, { name := "$assertionsDisabled", type := .boolean, accessFlags := 4120, slot := 3, constantValue := 0 }]
  methods := #[k9m0, k9m1, k9m2, k9m3, k9m4, k9m5, k9m6, k9m7, k9m8, k9m9, k9m10, k9m11, k9m12]
  instanceTypes := #[]
  staticTypes := #[.int, .int, .int, .boolean]
  resolved := Array.replicate 635 none
  statics := some 1 }

def pool10 : Array CpInfo := pool [(2, .class_ 4), (1, u "java/lang/Object"), (0, u "<init>"), (0, u "()V"), (0, .class_ 8), (0, u "java/lang/Record")] 13

def k10m0 : Method := { name := "<init>", desc := "()V", sig := { parameters := [], returnType := none }, accessFlags := 4, code := none }
/-- java/lang/Record -/
def k10 : Class := { plain "java/lang/Record" (some 0) with
  accessFlags := 1057
  interfaces := #[]
  cf := some (fileOf pool10 7 #[] #[{ accessFlags := 4, nameIndex := 5, descriptorIndex := 6, attributes := #[] }] 1057 2 #[] #[])
  fields := #[]
  methods := #[k10m0]
  instanceTypes := #[]
  staticTypes := #[]
  resolved := Array.replicate 22 none
  statics := none }

def pool11 : Array CpInfo := pool [(2, .class_ 4), (1, u "java/lang/Record"), (9, .class_ 16), (1, u "com/example/headwater/headwater/core/HttpFields"), (0, u "fields"), (0, u "Ljava/util/List;"), (2, u "warnings"), (13, .class_ 36), (0, u "com/example/headwater/headwater/core/HttpFields$FieldNames"), (4, u "()I"), (6, .class_ 49), (0, u "java/lang/String"), (10, u "isFieldValue"), (0, u "(Ljava/lang/String;)Z"), (32, .class_ 95), (0, u "com/example/headwater/headwater/core/HttpFields$Field"), (62, .methodref 48 159), (0, .nameAndType 160 41), (0, u "length"), (0, .methodref 48 162), (0, .nameAndType 163 164), (0, u "charAt"), (0, u "(I)C"), (6, .methodref 172 173), (0, .class_ 174), (0, .nameAndType 175 176), (0, u "java/lang/Character"), (0, u "isISOControl"), (0, u "(C)Z"), (45, u "SET_BY_HTTP"), (0, u "Ljava/util/Set;"), (3, u "NOT_STRING_VALUED"), (0, u "Ljava/lang/String;"), (1, u "BAD_FIELD_NAME"), (0, u "BAD_VALUE"), (0, u "FIELD_CLASH"), (0, u "REQUIRED_HEADER_NOT_CARRIED"), (0, u "SEPARATORS")] 63

def k11c0 : Code := { maxStack := 2, maxLocals := 4, code := prog_27_method_5_code, exceptionTable := #[], attributes := #[] }
def k11m0 : Method := { name := "isFieldValue", desc := "(Ljava/lang/String;)Z", sig := { parameters := [(.object "java/lang/String")], returnType := some .boolean }, accessFlags := 8, code := some k11c0 }
/-- com/example/headwater/headwater/core/HttpFields -/
def k11 : Class := { plain "com/example/headwater/headwater/core/HttpFields" (some 10) with
  accessFlags := 49
  interfaces := #[]
  cf := some (fileOf pool11 14 #[.nestMembers #[35, 94]] #[{ accessFlags := 8, nameIndex := 60, descriptorIndex := 61, attributes := #[] }] 49 2 #[] #[{ accessFlags := 18, nameIndex := 17, descriptorIndex := 18, attributes := #[] }, { accessFlags := 18, nameIndex := 21, descriptorIndex := 18, attributes := #[] }, { accessFlags := 26, nameIndex := 227, descriptorIndex := 228, attributes := #[] }, { accessFlags := 26, nameIndex := 230, descriptorIndex := 228, attributes := #[] }, { accessFlags := 24, nameIndex := 231, descriptorIndex := 228, attributes := #[] }, { accessFlags := 24, nameIndex := 232, descriptorIndex := 228, attributes := #[] }, { accessFlags := 24, nameIndex := 233, descriptorIndex := 228, attributes := #[] }, { accessFlags := 26, nameIndex := 234, descriptorIndex := 228, attributes := #[] }, { accessFlags := 26, nameIndex := 222, descriptorIndex := 223, attributes := #[] }])
  fields := #[{ name := "fields", type := (.object "java/util/List"), accessFlags := 18, slot := 0, constantValue := 0 }, { name := "warnings", type := (.object "java/util/List"), accessFlags := 18, slot := 1, constantValue := 0 }, { name := "NOT_STRING_VALUED", type := (.object "java/lang/String"), accessFlags := 26, slot := 0, constantValue := 0 }, { name := "BAD_FIELD_NAME", type := (.object "java/lang/String"), accessFlags := 26, slot := 1, constantValue := 0 }, { name := "BAD_VALUE", type := (.object "java/lang/String"), accessFlags := 24, slot := 2, constantValue := 0 }, { name := "FIELD_CLASH", type := (.object "java/lang/String"), accessFlags := 24, slot := 3, constantValue := 0 }, { name := "REQUIRED_HEADER_NOT_CARRIED", type := (.object "java/lang/String"), accessFlags := 24, slot := 4, constantValue := 0 }, { name := "SEPARATORS", type := (.object "java/lang/String"), accessFlags := 26, slot := 5, constantValue := 0 }, { name := "SET_BY_HTTP", type := (.object "java/util/Set"), accessFlags := 26, slot := 6, constantValue := 0 }]
  methods := #[k11m0]
  instanceTypes := #[(.object "java/util/List"), (.object "java/util/List")]
  staticTypes := #[(.object "java/lang/String"), (.object "java/lang/String"), (.object "java/lang/String"), (.object "java/lang/String"), (.object "java/lang/String"), (.object "java/lang/String"), (.object "java/util/Set")]
  resolved := Array.replicate 298 none
  statics := none }

def pool12 : Array CpInfo := pool [(2, .class_ 4), (1, u "java/lang/Object"), (0, u "<init>"), (0, u "()V"), (17, .class_ 26), (1, u "jdk/internal/util/Preconditions"), (6, u "checkIndex"), (21, .class_ 56), (0, u "jdk/internal/util/Preconditions$4"), (57, .class_ 115), (0, u "jdk/internal/util/Preconditions$1"), (7, u "SIOOBE_FORMATTER"), (0, u "Ljava/util/function/BiFunction;"), (0, .class_ 126), (0, u "jdk/internal/util/Preconditions$2"), (3, u "AIOOBE_FORMATTER"), (0, .class_ 132), (0, u "jdk/internal/util/Preconditions$3"), (3, u "IOOBE_FORMATTER"), (41, u "(IILjava/util/function/BiFunction;)I")] 15

def k12m0 : Method := { name := "<init>", desc := "()V", sig := { parameters := [], returnType := none }, accessFlags := 1, code := none }
def k12c1 : Code := { maxStack := 3, maxLocals := 3, code := jdk_41_method_11_code, exceptionTable := #[], attributes := #[] }
def k12m1 : Method := { name := "checkIndex", desc := "(IILjava/util/function/BiFunction;)I", sig := { parameters := [.int, .int, (.object "java/util/function/BiFunction")], returnType := some .int }, accessFlags := 9, code := some k12c1 }
/-- jdk/internal/util/Preconditions -/
def k12 : Class := { plain "jdk/internal/util/Preconditions" (some 0) with
  accessFlags := 33
  interfaces := #[]
  cf := some (fileOf pool12 24 #[.nestMembers #[55, 131, 125, 114]] #[{ accessFlags := 1, nameIndex := 5, descriptorIndex := 6, attributes := #[] }, { accessFlags := 9, nameIndex := 33, descriptorIndex := 178, attributes := #[] }] 33 2 #[] #[{ accessFlags := 25, nameIndex := 123, descriptorIndex := 124, attributes := #[] }, { accessFlags := 25, nameIndex := 130, descriptorIndex := 124, attributes := #[] }, { accessFlags := 25, nameIndex := 136, descriptorIndex := 124, attributes := #[] }])
  fields := #[{ name := "SIOOBE_FORMATTER", type := (.object "java/util/function/BiFunction"), accessFlags := 25, slot := 0, constantValue := 0 }, { name := "AIOOBE_FORMATTER", type := (.object "java/util/function/BiFunction"), accessFlags := 25, slot := 1, constantValue := 0 }, { name := "IOOBE_FORMATTER", type := (.object "java/util/function/BiFunction"), accessFlags := 25, slot := 2, constantValue := 0 }]
  methods := #[k12m0, k12m1]
  instanceTypes := #[]
  staticTypes := #[(.object "java/util/function/BiFunction"), (.object "java/util/function/BiFunction"), (.object "java/util/function/BiFunction")]
  resolved := Array.replicate 194 none
  statics := some 2 }

def pool13 : Array CpInfo := pool [(1, .class_ 2), (0, u "java/lang/Character"), (18, u "value"), (0, u "C"), (19, .class_ 44), (1, u "java/lang/Object"), (3, .class_ 50), (1, u "java/lang/Character$CharacterCache"), (30, u "(C)Z"), (32, u "(I)Z"), (151, .methodref 1 267), (0, .nameAndType 268 114), (0, u "isISOControl"), (15, u "$assertionsDisabled"), (0, u "Z"), (21, .class_ 309), (1, u "java/lang/Character$UnicodeBlock"), (73, u "TYPE"), (0, u "Ljava/lang/Class;"), (0, .class_ 386), (0, u "java/io/Serializable"), (0, .class_ 388), (0, u "java/lang/Comparable"), (0, .class_ 390), (0, u "java/lang/constant/Constable"), (0, u "MIN_RADIX"), (0, u "I"), (2, u "MAX_RADIX"), (1, u "MIN_VALUE"), (1, u "MAX_VALUE"), (3, u "UNASSIGNED"), (0, u "B"), (0, u "UPPERCASE_LETTER"), (1, u "LOWERCASE_LETTER"), (0, u "TITLECASE_LETTER"), (1, u "MODIFIER_LETTER"), (1, u "OTHER_LETTER"), (1, u "NON_SPACING_MARK"), (1, u "ENCLOSING_MARK"), (1, u "COMBINING_SPACING_MARK"), (1, u "DECIMAL_DIGIT_NUMBER"), (1, u "LETTER_NUMBER"), (1, u "OTHER_NUMBER"), (1, u "SPACE_SEPARATOR"), (1, u "LINE_SEPARATOR"), (1, u "PARAGRAPH_SEPARATOR"), (1, u "CONTROL"), (1, u "FORMAT"), (1, u "PRIVATE_USE"), (1, u "SURROGATE"), (1, u "DASH_PUNCTUATION"), (1, u "START_PUNCTUATION"), (1, u "END_PUNCTUATION"), (1, u "CONNECTOR_PUNCTUATION"), (1, u "OTHER_PUNCTUATION"), (1, u "MATH_SYMBOL"), (1, u "CURRENCY_SYMBOL"), (1, u "MODIFIER_SYMBOL"), (1, u "OTHER_SYMBOL"), (1, u "INITIAL_QUOTE_PUNCTUATION"), (1, u "FINAL_QUOTE_PUNCTUATION"), (1, u "ERROR"), (1, u "DIRECTIONALITY_UNDEFINED"), (0, u "DIRECTIONALITY_LEFT_TO_RIGHT"), (0, u "DIRECTIONALITY_RIGHT_TO_LEFT"), (0, u "DIRECTIONALITY_RIGHT_TO_LEFT_ARABIC"), (0, u "DIRECTIONALITY_EUROPEAN_NUMBER"), (0, u "DIRECTIONALITY_EUROPEAN_NUMBER_SEPARATOR"), (0, u "DIRECTIONALITY_EUROPEAN_NUMBER_TERMINATOR"), (0, u "DIRECTIONALITY_ARABIC_NUMBER"), (0, u "DIRECTIONALITY_COMMON_NUMBER_SEPARATOR"), (0, u "DIRECTIONALITY_NONSPACING_MARK"), (0, u "DIRECTIONALITY_BOUNDARY_NEUTRAL"), (0, u "DIRECTIONALITY_PARAGRAPH_SEPARATOR"), (0, u "DIRECTIONALITY_SEGMENT_SEPARATOR"), (0, u "DIRECTIONALITY_WHITESPACE"), (0, u "DIRECTIONALITY_OTHER_NEUTRALS"), (0, u "DIRECTIONALITY_LEFT_TO_RIGHT_EMBEDDING"), (0, u "DIRECTIONALITY_LEFT_TO_RIGHT_OVERRIDE"), (0, u "DIRECTIONALITY_RIGHT_TO_LEFT_EMBEDDING"), (0, u "DIRECTIONALITY_RIGHT_TO_LEFT_OVERRIDE"), (1, u "DIRECTIONALITY_POP_DIRECTIONAL_FORMAT"), (0, u "DIRECTIONALITY_LEFT_TO_RIGHT_ISOLATE"), (0, u "DIRECTIONALITY_RIGHT_TO_LEFT_ISOLATE"), (0, u "DIRECTIONALITY_FIRST_STRONG_ISOLATE"), (0, u "DIRECTIONALITY_POP_DIRECTIONAL_ISOLATE"), (0, u "MIN_HIGH_SURROGATE"), (0, u "MAX_HIGH_SURROGATE"), (1, u "MIN_LOW_SURROGATE"), (0, u "MAX_LOW_SURROGATE"), (1, u "MIN_SURROGATE"), (0, u "MAX_SURROGATE"), (0, u "MIN_SUPPLEMENTARY_CODE_POINT"), (0, u "MIN_CODE_POINT"), (0, u "MAX_CODE_POINT"), (1, u "serialVersionUID"), (0, u "J"), (2, u "SIZE"), (0, u "BYTES"), (88, .class_ 596), (0, u "java/lang/Character$UnicodeScript"), (0, .class_ 598), (0, u "java/lang/Character$Subset")] 5

def k13c0 : Code := { maxStack := 1, maxLocals := 1, code := jdk_89_method_88_code, exceptionTable := #[], attributes := #[] }
def k13m0 : Method := { name := "isISOControl", desc := "(C)Z", sig := { parameters := [.char], returnType := some .boolean }, accessFlags := 9, code := some k13c0 }
def k13c1 : Code := { maxStack := 2, maxLocals := 1, code := jdk_89_method_89_code, exceptionTable := #[], attributes := #[] }
def k13m1 : Method := { name := "isISOControl", desc := "(I)Z", sig := { parameters := [.int], returnType := some .boolean }, accessFlags := 9, code := some k13c1 }
/-- java/lang/Character -/
def k13 : Class := { plain "java/lang/Character" (some 0) with
  accessFlags := 49
  interfaces := #[2, 3, 5]
  cf := some (fileOf pool13 1 #[.nestMembers #[48, 595, 307, 597]] #[{ accessFlags := 9, nameIndex := 268, descriptorIndex := 81, attributes := #[] }, { accessFlags := 9, nameIndex := 268, descriptorIndex := 114, attributes := #[] }] 49 42 #[385, 387, 389] #[{ accessFlags := 25, nameIndex := 391, descriptorIndex := 392, attributes := #[] }, { accessFlags := 25, nameIndex := 395, descriptorIndex := 392, attributes := #[] }, { accessFlags := 25, nameIndex := 397, descriptorIndex := 22, attributes := #[] }, { accessFlags := 25, nameIndex := 399, descriptorIndex := 22, attributes := #[] }, { accessFlags := 25, nameIndex := 383, descriptorIndex := 384, attributes := #[] }, { accessFlags := 25, nameIndex := 403, descriptorIndex := 404, attributes := #[] }, { accessFlags := 25, nameIndex := 405, descriptorIndex := 404, attributes := #[] }, { accessFlags := 25, nameIndex := 407, descriptorIndex := 404, attributes := #[] }, { accessFlags := 25, nameIndex := 408, descriptorIndex := 404, attributes := #[] }, { accessFlags := 25, nameIndex := 410, descriptorIndex := 404, attributes := #[] }, { accessFlags := 25, nameIndex := 412, descriptorIndex := 404, attributes := #[] }, { accessFlags := 25, nameIndex := 414, descriptorIndex := 404, attributes := #[] }, { accessFlags := 25, nameIndex := 416, descriptorIndex := 404, attributes := #[] }, { accessFlags := 25, nameIndex := 418, descriptorIndex := 404, attributes := #[] }, { accessFlags := 25, nameIndex := 420, descriptorIndex := 404, attributes := #[] }, { accessFlags := 25, nameIndex := 422, descriptorIndex := 404, attributes := #[] }, { accessFlags := 25, nameIndex := 424, descriptorIndex := 404, attributes := #[] }, { accessFlags := 25, nameIndex := 426, descriptorIndex := 404, attributes := #[] }, { accessFlags := 25, nameIndex := 428, descriptorIndex := 404, attributes := #[] }, { accessFlags := 25, nameIndex := 430, descriptorIndex := 404, attributes := #[] }, { accessFlags := 25, nameIndex := 432, descriptorIndex := 404, attributes := #[] }, { accessFlags := 25, nameIndex := 434, descriptorIndex := 404, attributes := #[] }, { accessFlags := 25, nameIndex := 436, descriptorIndex := 404, attributes := #[] }, { accessFlags := 25, nameIndex := 438, descriptorIndex := 404, attributes := #[] }, { accessFlags := 25, nameIndex := 440, descriptorIndex := 404, attributes := #[] }, { accessFlags := 25, nameIndex := 442, descriptorIndex := 404, attributes := #[] }, { accessFlags := 25, nameIndex := 444, descriptorIndex := 404, attributes := #[] }, { accessFlags := 25, nameIndex := 446, descriptorIndex := 404, attributes := #[] }, { accessFlags := 25, nameIndex := 448, descriptorIndex := 404, attributes := #[] }, { accessFlags := 25, nameIndex := 450, descriptorIndex := 404, attributes := #[] }, { accessFlags := 25, nameIndex := 452, descriptorIndex := 404, attributes := #[] }, { accessFlags := 25, nameIndex := 454, descriptorIndex := 404, attributes := #[] }, { accessFlags := 25, nameIndex := 456, descriptorIndex := 404, attributes := #[] }, { accessFlags := 25, nameIndex := 458, descriptorIndex := 404, attributes := #[] }, { accessFlags := 25, nameIndex := 460, descriptorIndex := 404, attributes := #[] }, { accessFlags := 24, nameIndex := 462, descriptorIndex := 392, attributes := #[] }, { accessFlags := 25, nameIndex := 464, descriptorIndex := 404, attributes := #[] }, { accessFlags := 25, nameIndex := 465, descriptorIndex := 404, attributes := #[] }, { accessFlags := 25, nameIndex := 466, descriptorIndex := 404, attributes := #[] }, { accessFlags := 25, nameIndex := 467, descriptorIndex := 404, attributes := #[] }, { accessFlags := 25, nameIndex := 468, descriptorIndex := 404, attributes := #[] }, { accessFlags := 25, nameIndex := 469, descriptorIndex := 404, attributes := #[] }, { accessFlags := 25, nameIndex := 470, descriptorIndex := 404, attributes := #[] }, { accessFlags := 25, nameIndex := 471, descriptorIndex := 404, attributes := #[] }, { accessFlags := 25, nameIndex := 472, descriptorIndex := 404, attributes := #[] }, { accessFlags := 25, nameIndex := 473, descriptorIndex := 404, attributes := #[] }, { accessFlags := 25, nameIndex := 474, descriptorIndex := 404, attributes := #[] }, { accessFlags := 25, nameIndex := 475, descriptorIndex := 404, attributes := #[] }, { accessFlags := 25, nameIndex := 476, descriptorIndex := 404, attributes := #[] }, { accessFlags := 25, nameIndex := 477, descriptorIndex := 404, attributes := #[] }, { accessFlags := 25, nameIndex := 478, descriptorIndex := 404, attributes := #[] }, { accessFlags := 25, nameIndex := 479, descriptorIndex := 404, attributes := #[] }, { accessFlags := 25, nameIndex := 480, descriptorIndex := 404, attributes := #[] }, { accessFlags := 25, nameIndex := 481, descriptorIndex := 404, attributes := #[] }, { accessFlags := 25, nameIndex := 482, descriptorIndex := 404, attributes := #[] }, { accessFlags := 25, nameIndex := 484, descriptorIndex := 404, attributes := #[] }, { accessFlags := 25, nameIndex := 485, descriptorIndex := 404, attributes := #[] }, { accessFlags := 25, nameIndex := 486, descriptorIndex := 404, attributes := #[] }, { accessFlags := 25, nameIndex := 487, descriptorIndex := 404, attributes := #[] }, { accessFlags := 25, nameIndex := 488, descriptorIndex := 404, attributes := #[] }, { accessFlags := 25, nameIndex := 489, descriptorIndex := 22, attributes := #[] }, { accessFlags := 25, nameIndex := 490, descriptorIndex := 22, attributes := #[] }, { accessFlags := 25, nameIndex := 492, descriptorIndex := 22, attributes := #[] }, { accessFlags := 25, nameIndex := 493, descriptorIndex := 22, attributes := #[] }, { accessFlags := 25, nameIndex := 495, descriptorIndex := 22, attributes := #[] }, { accessFlags := 25, nameIndex := 496, descriptorIndex := 22, attributes := #[] }, { accessFlags := 25, nameIndex := 497, descriptorIndex := 392, attributes := #[] }, { accessFlags := 25, nameIndex := 498, descriptorIndex := 392, attributes := #[] }, { accessFlags := 25, nameIndex := 499, descriptorIndex := 392, attributes := #[] }, { accessFlags := 18, nameIndex := 21, descriptorIndex := 22, attributes := #[] }, { accessFlags := 26, nameIndex := 501, descriptorIndex := 502, attributes := #[] }, { accessFlags := 25, nameIndex := 505, descriptorIndex := 392, attributes := #[] }, { accessFlags := 25, nameIndex := 506, descriptorIndex := 392, attributes := #[] }, { accessFlags := 4120, nameIndex := 284, descriptorIndex := 285, attributes := #[] }])
  fields := #[{ name := "MIN_RADIX", type := .int, accessFlags := 25, slot := 0, constantValue := 0 }, { name := "MAX_RADIX", type := .int, accessFlags := 25, slot := 1, constantValue := 0 }, { name := "MIN_VALUE", type := .char, accessFlags := 25, slot := 2, constantValue := 0 }, { name := "MAX_VALUE", type := .char, accessFlags := 25, slot := 3, constantValue := 0 }, { name := "TYPE", type := (.object "java/lang/Class"), accessFlags := 25, slot := 4, constantValue := 0 }, { name := "UNASSIGNED", type := .byte, accessFlags := 25, slot := 5, constantValue := 0 }, { name := "UPPERCASE_LETTER", type := .byte, accessFlags := 25, slot := 6, constantValue := 0 }, { name := "LOWERCASE_LETTER", type := .byte, accessFlags := 25, slot := 7, constantValue := 0 }, { name := "TITLECASE_LETTER", type := .byte, accessFlags := 25, slot := 8, constantValue := 0 }, { name := "MODIFIER_LETTER", type := .byte, accessFlags := 25, slot := 9, constantValue := 0 }, { name := "OTHER_LETTER", type := .byte, accessFlags := 25, slot := 10, constantValue := 0 }, { name := "NON_SPACING_MARK", type := .byte, accessFlags := 25, slot := 11, constantValue := 0 }, { name := "ENCLOSING_MARK", type := .byte, accessFlags := 25, slot := 12, constantValue := 0 }, { name := "COMBINING_SPACING_MARK", type := .byte, accessFlags := 25, slot := 13, constantValue := 0 }, { name := "DECIMAL_DIGIT_NUMBER", type := .byte, accessFlags := 25, slot := 14, constantValue := 0 }, { name := "LETTER_NUMBER", type := .byte, accessFlags := 25, slot := 15, constantValue := 0 }, { name := "OTHER_NUMBER", type := .byte, accessFlags := 25, slot := 16, constantValue := 0 }, { name := "SPACE_SEPARATOR", type := .byte, accessFlags := 25, slot := 17, constantValue := 0 }, { name := "LINE_SEPARATOR", type := .byte, accessFlags := 25, slot := 18, constantValue := 0 }, { name := "PARAGRAPH_SEPARATOR", type := .byte, accessFlags := 25, slot := 19, constantValue := 0 }, { name := "CONTROL", type := .byte, accessFlags := 25, slot := 20, constantValue := 0 }, { name := "FORMAT", type := .byte, accessFlags := 25, slot := 21, constantValue := 0 }, { name := "PRIVATE_USE", type := .byte, accessFlags := 25, slot := 22, constantValue := 0 }, { name := "SURROGATE", type := .byte, accessFlags := 25, slot := 23, constantValue := 0 }, { name := "DASH_PUNCTUATION", type := .byte, accessFlags := 25, slot := 24, constantValue := 0 }, { name := "START_PUNCTUATION", type := .byte, accessFlags := 25, slot := 25, constantValue := 0 }, { name := "END_PUNCTUATION", type := .byte, accessFlags := 25, slot := 26, constantValue := 0 }, { name := "CONNECTOR_PUNCTUATION", type := .byte, accessFlags := 25, slot := 27, constantValue := 0 }, { name := "OTHER_PUNCTUATION", type := .byte, accessFlags := 25, slot := 28, constantValue := 0 }, { name := "MATH_SYMBOL", type := .byte, accessFlags := 25, slot := 29, constantValue := 0 }, { name := "CURRENCY_SYMBOL", type := .byte, accessFlags := 25, slot := 30, constantValue := 0 }, { name := "MODIFIER_SYMBOL", type := .byte, accessFlags := 25, slot := 31, constantValue := 0 }, { name := "OTHER_SYMBOL", type := .byte, accessFlags := 25, slot := 32, constantValue := 0 }, { name := "INITIAL_QUOTE_PUNCTUATION", type := .byte, accessFlags := 25, slot := 33, constantValue := 0 }, { name := "FINAL_QUOTE_PUNCTUATION", type := .byte, accessFlags := 25, slot := 34, constantValue := 0 }, { name := "ERROR", type := .int, accessFlags := 24, slot := 35, constantValue := 0 }, { name := "DIRECTIONALITY_UNDEFINED", type := .byte, accessFlags := 25, slot := 36, constantValue := 0 }, { name := "DIRECTIONALITY_LEFT_TO_RIGHT", type := .byte, accessFlags := 25, slot := 37, constantValue := 0 }, { name := "DIRECTIONALITY_RIGHT_TO_LEFT", type := .byte, accessFlags := 25, slot := 38, constantValue := 0 }, { name := "DIRECTIONALITY_RIGHT_TO_LEFT_ARABIC", type := .byte, accessFlags := 25, slot := 39, constantValue := 0 }, { name := "DIRECTIONALITY_EUROPEAN_NUMBER", type := .byte, accessFlags := 25, slot := 40, constantValue := 0 }, { name := "DIRECTIONALITY_EUROPEAN_NUMBER_SEPARATOR", type := .byte, accessFlags := 25, slot := 41, constantValue := 0 }, { name := "DIRECTIONALITY_EUROPEAN_NUMBER_TERMINATOR", type := .byte, accessFlags := 25, slot := 42, constantValue := 0 }, { name := "DIRECTIONALITY_ARABIC_NUMBER", type := .byte, accessFlags := 25, slot := 43, constantValue := 0 }, { name := "DIRECTIONALITY_COMMON_NUMBER_SEPARATOR", type := .byte, accessFlags := 25, slot := 44, constantValue := 0 }, { name := "DIRECTIONALITY_NONSPACING_MARK", type := .byte, accessFlags := 25, slot := 45, constantValue := 0 }, { name := "DIRECTIONALITY_BOUNDARY_NEUTRAL", type := .byte, accessFlags := 25, slot := 46, constantValue := 0 }, { name := "DIRECTIONALITY_PARAGRAPH_SEPARATOR", type := .byte, accessFlags := 25, slot := 47, constantValue := 0 }, { name := "DIRECTIONALITY_SEGMENT_SEPARATOR", type := .byte, accessFlags := 25, slot := 48, constantValue := 0 }, { name := "DIRECTIONALITY_WHITESPACE", type := .byte, accessFlags := 25, slot := 49, constantValue := 0 }, { name := "DIRECTIONALITY_OTHER_NEUTRALS", type := .byte, accessFlags := 25, slot := 50, constantValue := 0 }, { name := "DIRECTIONALITY_LEFT_TO_RIGHT_EMBEDDING", type := .byte, accessFlags := 25, slot := 51, constantValue := 0 }, { name := "DIRECTIONALITY_LEFT_TO_RIGHT_OVERRIDE", type := .byte, accessFlags := 25, slot := 52, constantValue := 0 }, { name := "DIRECTIONALITY_RIGHT_TO_LEFT_EMBEDDING", type := .byte, accessFlags := 25, slot := 53, constantValue := 0 }, { name := "DIRECTIONALITY_RIGHT_TO_LEFT_OVERRIDE", type := .byte, accessFlags := 25, slot := 54, constantValue := 0 }, { name := "DIRECTIONALITY_POP_DIRECTIONAL_FORMAT", type := .byte, accessFlags := 25, slot := 55, constantValue := 0 }, { name := "DIRECTIONALITY_LEFT_TO_RIGHT_ISOLATE", type := .byte, accessFlags := 25, slot := 56, constantValue := 0 }, { name := "DIRECTIONALITY_RIGHT_TO_LEFT_ISOLATE", type := .byte, accessFlags := 25, slot := 57, constantValue := 0 }, { name := "DIRECTIONALITY_FIRST_STRONG_ISOLATE", type := .byte, accessFlags := 25, slot := 58, constantValue := 0 }, { name := "DIRECTIONALITY_POP_DIRECTIONAL_ISOLATE", type := .byte, accessFlags := 25, slot := 59, constantValue := 0 }, { name := "MIN_HIGH_SURROGATE", type := .char, accessFlags := 25, slot := 60, constantValue := 0 }, { name := "MAX_HIGH_SURROGATE", type := .char, accessFlags := 25, slot := 61, constantValue := 0 }, { name := "MIN_LOW_SURROGATE", type := .char, accessFlags := 25, slot := 62, constantValue := 0 }, { name := "MAX_LOW_SURROGATE", type := .char, accessFlags := 25, slot := 63, constantValue := 0 }, { name := "MIN_SURROGATE", type := .char, accessFlags := 25, slot := 64, constantValue := 0 }, { name := "MAX_SURROGATE", type := .char, accessFlags := 25, slot := 65, constantValue := 0 }, { name := "MIN_SUPPLEMENTARY_CODE_POINT", type := .int, accessFlags := 25, slot := 66, constantValue := 0 }, { name := "MIN_CODE_POINT", type := .int, accessFlags := 25, slot := 67, constantValue := 0 }, { name := "MAX_CODE_POINT", type := .int, accessFlags := 25, slot := 68, constantValue := 0 }, { name := "value", type := .char, accessFlags := 18, slot := 0, constantValue := 0 }, { name := "serialVersionUID", type := .long, accessFlags := 26, slot := 69, constantValue := 0 }, { name := "SIZE", type := .int, accessFlags := 25, slot := 70, constantValue := 0 }, { name := "BYTES", type := .int, accessFlags := 25, slot := 71, constantValue := 0 }, { name := "$assertionsDisabled", type := .boolean, accessFlags := 4120, slot := 72, constantValue := 0 }]
  methods := #[k13m0, k13m1]
  instanceTypes := #[.char]
  staticTypes := #[.int, .int, .char, .char, (.object "java/lang/Class"), .byte, .byte, .byte, .byte, .byte, .byte, .byte, .byte, .byte, .byte, .byte, .byte, .byte, .byte, .byte, .byte, .byte, .byte, .byte, .byte, .byte, .byte, .byte, .byte, .byte, .byte, .byte, .byte, .byte, .byte, .int, .byte, .byte, .byte, .byte, .byte, .byte, .byte, .byte, .byte, .byte, .byte, .byte, .byte, .byte, .byte, .byte, .byte, .byte, .byte, .byte, .byte, .byte, .byte, .byte, .char, .char, .char, .char, .char, .char, .int, .int, .int, .long, .int, .int, .boolean]
  resolved := Array.replicate 604 none
  statics := none }

def pool14 : Array CpInfo := pool [(9, u "<init>"), (6, .class_ 18), (1, u "java/lang/Object"), (0, u "()V"), (1, .class_ 23), (1, u "jdk/internal/util/ArraysSupport"), (0, u "LOG2_ARRAY_LONG_INDEX_SCALE"), (0, u "I"), (2, u "U"), (0, u "Ljdk/internal/misc/Unsafe;"), (8, u "BIG_ENDIAN"), (0, u "Z"), (8, u "LOG2_BYTE_BIT_SIZE"), (4, u "LOG2_ARRAY_INT_INDEX_SCALE"), (54, u "JLA"), (0, u "Ljdk/internal/access/JavaLangAccess;"), (11, u "LOG2_ARRAY_BOOLEAN_INDEX_SCALE"), (9, u "LOG2_ARRAY_BYTE_INDEX_SCALE"), (5, u "LOG2_ARRAY_CHAR_INDEX_SCALE"), (5, u "LOG2_ARRAY_SHORT_INDEX_SCALE"), (18, u "LOG2_ARRAY_FLOAT_INDEX_SCALE"), (24, u "LOG2_ARRAY_DOUBLE_INDEX_SCALE"), (89, u "T_BOOLEAN"), (2, u "T_CHAR"), (1, u "T_FLOAT"), (1, u "T_DOUBLE"), (1, u "T_BYTE"), (1, u "T_SHORT"), (1, u "T_INT"), (1, u "T_LONG"), (1, u "SOFT_MAX_ARRAY_LENGTH")] 83

def k14m0 : Method := { name := "<init>", desc := "()V", sig := { parameters := [], returnType := none }, accessFlags := 2, code := none }
/-- jdk/internal/util/ArraysSupport -/
def k14 : Class := { plain "jdk/internal/util/ArraysSupport" (some 0) with
  accessFlags := 33
  interfaces := #[]
  cf := some (fileOf pool14 21 #[] #[{ accessFlags := 2, nameIndex := 9, descriptorIndex := 19, attributes := #[] }] 33 16 #[] #[{ accessFlags := 24, nameIndex := 28, descriptorIndex := 29, attributes := #[] }, { accessFlags := 26, nameIndex := 38, descriptorIndex := 39, attributes := #[] }, { accessFlags := 25, nameIndex := 121, descriptorIndex := 25, attributes := #[] }, { accessFlags := 25, nameIndex := 131, descriptorIndex := 25, attributes := #[] }, { accessFlags := 25, nameIndex := 137, descriptorIndex := 25, attributes := #[] }, { accessFlags := 25, nameIndex := 143, descriptorIndex := 25, attributes := #[] }, { accessFlags := 25, nameIndex := 53, descriptorIndex := 25, attributes := #[] }, { accessFlags := 25, nameIndex := 24, descriptorIndex := 25, attributes := #[] }, { accessFlags := 25, nameIndex := 162, descriptorIndex := 25, attributes := #[] }, { accessFlags := 25, nameIndex := 187, descriptorIndex := 25, attributes := #[] }, { accessFlags := 26, nameIndex := 48, descriptorIndex := 25, attributes := #[] }, { accessFlags := 25, nameIndex := 277, descriptorIndex := 25, attributes := #[] }, { accessFlags := 25, nameIndex := 280, descriptorIndex := 25, attributes := #[] }, { accessFlags := 25, nameIndex := 282, descriptorIndex := 25, attributes := #[] }, { accessFlags := 25, nameIndex := 284, descriptorIndex := 25, attributes := #[] }, { accessFlags := 25, nameIndex := 286, descriptorIndex := 25, attributes := #[] }, { accessFlags := 25, nameIndex := 288, descriptorIndex := 25, attributes := #[] }, { accessFlags := 25, nameIndex := 290, descriptorIndex := 25, attributes := #[] }, { accessFlags := 25, nameIndex := 292, descriptorIndex := 25, attributes := #[] }, { accessFlags := 26, nameIndex := 108, descriptorIndex := 109, attributes := #[] }, { accessFlags := 25, nameIndex := 294, descriptorIndex := 25, attributes := #[] }])
  fields := #[{ name := "U", type := (.object "jdk/internal/misc/Unsafe"), accessFlags := 24, slot := 0, constantValue := 0 }, { name := "BIG_ENDIAN", type := .boolean, accessFlags := 26, slot := 1, constantValue := 0 }, { name := "LOG2_ARRAY_BOOLEAN_INDEX_SCALE", type := .int, accessFlags := 25, slot := 2, constantValue := 0 }, { name := "LOG2_ARRAY_BYTE_INDEX_SCALE", type := .int, accessFlags := 25, slot := 3, constantValue := 0 }, { name := "LOG2_ARRAY_CHAR_INDEX_SCALE", type := .int, accessFlags := 25, slot := 4, constantValue := 0 }, { name := "LOG2_ARRAY_SHORT_INDEX_SCALE", type := .int, accessFlags := 25, slot := 5, constantValue := 0 }, { name := "LOG2_ARRAY_INT_INDEX_SCALE", type := .int, accessFlags := 25, slot := 6, constantValue := 0 }, { name := "LOG2_ARRAY_LONG_INDEX_SCALE", type := .int, accessFlags := 25, slot := 7, constantValue := 0 }, { name := "LOG2_ARRAY_FLOAT_INDEX_SCALE", type := .int, accessFlags := 25, slot := 8, constantValue := 0 }, { name := "LOG2_ARRAY_DOUBLE_INDEX_SCALE", type := .int, accessFlags := 25, slot := 9, constantValue := 0 }, { name := "LOG2_BYTE_BIT_SIZE", type := .int, accessFlags := 26, slot := 10, constantValue := 0 }, { name := "T_BOOLEAN", type := .int, accessFlags := 25, slot := 11, constantValue := 0 }, { name := "T_CHAR", type := .int, accessFlags := 25, slot := 12, constantValue := 0 }, { name := "T_FLOAT", type := .int, accessFlags := 25, slot := 13, constantValue := 0 }, { name := "T_DOUBLE", type := .int, accessFlags := 25, slot := 14, constantValue := 0 }, { name := "T_BYTE", type := .int, accessFlags := 25, slot := 15, constantValue := 0 }, { name := "T_SHORT", type := .int, accessFlags := 25, slot := 16, constantValue := 0 }, { name := "T_INT", type := .int, accessFlags := 25, slot := 17, constantValue := 0 }, { name := "T_LONG", type := .int, accessFlags := 25, slot := 18, constantValue := 0 }, { name := "JLA", type := (.object "jdk/internal/access/JavaLangAccess"), accessFlags := 26, slot := 19, constantValue := 0 }, { name := "SOFT_MAX_ARRAY_LENGTH", type := .int, accessFlags := 25, slot := 20, constantValue := 0 }]
  methods := #[k14m0]
  instanceTypes := #[]
  staticTypes := #[(.object "jdk/internal/misc/Unsafe"), .boolean, .int, .int, .int, .int, .int, .int, .int, .int, .int, .int, .int, .int, .int, .int, .int, .int, .int, (.object "jdk/internal/access/JavaLangAccess"), .int]
  resolved := Array.replicate 378 none
  statics := none }

def pool15 : Array CpInfo := pool [(1, u "java/lang/Cloneable"), (0, .class_ 1), (0, u "java/lang/Object"), (0, .class_ 3)] 3

/-- java/lang/Cloneable -/
def k15 : Class := { plain "java/lang/Cloneable" (some 0) with
  accessFlags := 1537
  interfaces := #[]
  cf := some (fileOf pool15 2 #[] #[] 1537 4 #[] #[])
  fields := #[]
  methods := #[]
  instanceTypes := #[]
  staticTypes := #[]
  resolved := Array.replicate 8 none
  statics := none }

/-- the primitive byte -/
def k16 : Class := { plain "byte" none with kind := .primitive 'B', accessFlags := 0x411 }
/-- [B -/
def k17 : Class := { plain "[B" (some 0) with kind := .array 16 .byte, interfaces := #[15, 2], accessFlags := 1041 }

/-- the primitive char -/
def k18 : Class := { plain "char" none with kind := .primitive 'C', accessFlags := 0x411 }
/-- [C -/
def k19 : Class := { plain "[C" (some 0) with kind := .array 18 .char, interfaces := #[15, 2], accessFlags := 1041 }

/-- the primitive int -/
def k20 : Class := { plain "int" none with kind := .primitive 'I', accessFlags := 0x411 }
/-- [I -/
def k21 : Class := { plain "[I" (some 0) with kind := .array 20 .int, interfaces := #[15, 2], accessFlags := 1041 }

def heap : Heap := #[{ cls := 7, slots := #[.long 0, .int 1, .null, .int 0, .null, .int 0, .int 0], vm := .statics 7 },
  { cls := 9, slots := #[.int 0, .int 8, .int 0, .int 1], vm := .statics 9 },
  { cls := 12, slots := #[.null, .null, .null], vm := .statics 12 }]
def classes : Array Class := #[k0, k1, k2, k3, k4, k5, k6, k7, k8, k9, k10, k11, k12, k13, k14, k15, k16, k17, k18, k19, k20, k21]
def interned : List (Array UInt16 × Addr) := []
def slotsUsed : Nat := 14
def theMethod : MethodId := ⟨1, 2⟩
def args0 : Array Value := #[.int 65, .int 300, .int 67]
def aboutOver (below : List Frame) : State where
  vm := { classes := classes, interned := interned.toArray }
  heap := heap
  slotsUsed := slotsUsed
  threads := #[{ frames := .invoking theMethod args0 :: below }]
def below0 : List Frame := [.native { method := ⟨0, 0⟩, args := #[] }]
def about1 : State := aboutOver below0
def p0 : Program := .bare "" "" ""
def e0 : Env := launch0.env 0 0 0
theorem w_frames : about1.frames = Frame.invoking theMethod args0 :: below0 := rfl
set_option maxRecDepth 65536 in
theorem w_args : argsFit about1.vm theMethod args0 = true := by decide +kernel
set_option maxRecDepth 65536 in
theorem w_heap : heapFits about1 = true := by decide +kernel
set_option maxRecDepth 65536 in
theorem w_runnable : about1.curStatus? = some .runnable := by decide +kernel
set_option maxRecDepth 65536 in
theorem w_alone : about1.alone = true := by decide +kernel
set_option maxRecDepth 65536 in
theorem w_named : about1.methodNamed? x = some theMethod := by decide +kernel
set_option maxRecDepth 65536 in
theorem w_hears : about1.hears theMethod below0 = true := by decide +kernel
set_option maxRecDepth 65536 in
theorem w_ripe : about1.ripe theMethod args0 below0 = true := by decide +kernel
theorem w_running : about1.status = .running := rfl
set_option maxRecDepth 65536 in
theorem w_room : about1.hasRoom e0.platform room_1 = true :=
  launch0.hasRoom_least _ room_1 (by decide +kernel) (by decide +kernel) (by decide +kernel) (by decide +kernel) (by decide +kernel) (by decide +kernel)
theorem allAtoms_all (ts : List Jvm.Cond) (a : Array Jvm.Value) (st : Jvm.State) : (allAtoms ts).before a st = ts.all (fun c => c.before a st) := by
  induction ts with
  | nil => rfl
  | cons c t ih =>
    show (Jvm.Cond.and c (allAtoms t)).before a st = _
    rw [Jvm.Cond.before_and, ih, List.all_cons]
def words1 : List Jvm.Cond := Jvm.Cond.code x code maxLocals ret :: tables_1
/-- a 'code' word, met by the world's own term for the bytes: nothing is compared byte by byte -/
theorem code_word {y : MethodName} {bytes : ByteArray} {mx : Nat} {rt : Option FieldType} {a : Array Value} {s : State} {m : MethodId} {meth : Method} {c : Code} (h1 : s.methodNamed? y = some m) (h2 : s.vm.method? m = some meth) (h3 : meth.code = some c) (h4 : c.code = bytes)
    (h5 : (c.maxLocals == mx && c.exceptionTable.isEmpty && decide (c.maxStack ≤ mostOperands) && decide (meth.sig.returnType = rt) && !meth.locks && decide (parseMethodDescriptor y.desc = some meth.sig)) = true) : (Jvm.Cond.code y bytes mx rt).before a s = true := by
  simp only [Bool.and_eq_true, beq_iff_eq, Bool.not_eq_true', decide_eq_true_eq] at h5
  obtain ⟨⟨⟨⟨⟨g1, g2⟩, g3⟩, g4⟩, g5⟩, g6⟩ := h5
  simp [Cond.before, Cond.holds, Cond.value, h1, h2, h3, h4, g1, g2, g3, g4, g5, g6]
def isCode : Jvm.Cond → Bool
  | .code _ _ _ _ => true
  | _ => false
theorem all_split {L : List Jvm.Cond} {P : Jvm.Cond → Bool} (h1 : L.all (fun c => isCode c || P c) = true) (h2 : ∀ c ∈ L.filter isCode, P c = true) : L.all P = true := by
  refine List.all_eq_true.mpr fun c hc => ?_
  have h := List.all_eq_true.mp h1 c hc
  rcases Bool.eq_false_or_eq_true (isCode c) with hi | hi
  · exact h2 c (List.mem_filter.mpr ⟨hc, hi⟩)
  · simpa [hi] using h
set_option maxRecDepth 65536 in
theorem w_c0 : (Jvm.Cond.code x code maxLocals ret).before args0 about1 = true := code_word (m := ⟨1, 2⟩) (meth := k1m2) (c := k1c2) (by decide +kernel) rfl rfl rfl (by decide +kernel)
set_option maxRecDepth 65536 in
theorem w_c1 : (Jvm.Cond.code ({ cls := "java/lang/String", name := "<init>", desc := "([C)V" } : Jvm.MethodName) jdk_42_method_3_code (2 : Nat) (Option.none : Option Jvm.ClassFile.FieldType)).before args0 about1 = true := code_word (m := ⟨7, 1⟩) (meth := k7m1) (c := k7c1) (by decide +kernel) rfl rfl rfl (by decide +kernel)
set_option maxRecDepth 65536 in
theorem w_c2 : (Jvm.Cond.code ({ cls := "java/lang/String", name := "<init>", desc := "([CIILjava/lang/Void;)V" } : Jvm.MethodName) jdk_42_method_149_code (6 : Nat) (Option.none : Option Jvm.ClassFile.FieldType)).before args0 about1 = true := code_word (m := ⟨7, 5⟩) (meth := k7m5) (c := k7c5) (by decide +kernel) rfl rfl rfl (by decide +kernel)
set_option maxRecDepth 65536 in
theorem w_c3 : (Jvm.Cond.code ({ cls := "java/lang/Object", name := "<init>", desc := "()V" } : Jvm.MethodName) object_method_1_code (1 : Nat) (Option.none : Option Jvm.ClassFile.FieldType)).before args0 about1 = true := code_word (m := ⟨0, 0⟩) (meth := k0m0) (c := k0c0) (by decide +kernel) rfl rfl rfl (by decide +kernel)
set_option maxRecDepth 65536 in
theorem w_c4 : (Jvm.Cond.code ({ cls := "java/lang/String", name := "valueOf", desc := "(C)Ljava/lang/String;" } : Jvm.MethodName) jdk_42_method_139_code (1 : Nat) (Option.some (Jvm.ClassFile.FieldType.object "java/lang/String"))).before args0 about1 = true := code_word (m := ⟨7, 4⟩) (meth := k7m4) (c := k7c4) (by decide +kernel) rfl rfl rfl (by decide +kernel)
set_option maxRecDepth 65536 in
theorem w_c5 : (Jvm.Cond.code ({ cls := "java/lang/StringLatin1", name := "canEncode", desc := "(C)Z" } : Jvm.MethodName) jdk_43_method_3_code (1 : Nat) (Option.some Jvm.ClassFile.FieldType.boolean)).before args0 about1 = true := code_word (m := ⟨8, 2⟩) (meth := k8m2) (c := k8c2) (by decide +kernel) rfl rfl rfl (by decide +kernel)
set_option maxRecDepth 65536 in
theorem w_c6 : (Jvm.Cond.code ({ cls := "java/lang/StringLatin1", name := "toBytes", desc := "(C)[B" } : Jvm.MethodName) jdk_43_method_46_code (1 : Nat) (Option.some (Jvm.ClassFile.FieldType.array Jvm.ClassFile.FieldType.byte))).before args0 about1 = true := code_word (m := ⟨8, 3⟩) (meth := k8m3) (c := k8c3) (by decide +kernel) rfl rfl rfl (by decide +kernel)
set_option maxRecDepth 65536 in
theorem w_c7 : (Jvm.Cond.code ({ cls := "java/lang/String", name := "<init>", desc := "([BB)V" } : Jvm.MethodName) jdk_42_method_151_code (3 : Nat) (Option.none : Option Jvm.ClassFile.FieldType)).before args0 about1 = true := code_word (m := ⟨7, 6⟩) (meth := k7m6) (c := k7c6) (by decide +kernel) rfl rfl rfl (by decide +kernel)
set_option maxRecDepth 65536 in
theorem w_c8 : (Jvm.Cond.code ({ cls := "java/lang/StringUTF16", name := "compress", desc := "([CII)[B" } : Jvm.MethodName) jdk_52_method_16_code (6 : Nat) (Option.some (Jvm.ClassFile.FieldType.array Jvm.ClassFile.FieldType.byte))).before args0 about1 = true := code_word (m := ⟨9, 8⟩) (meth := k9m8) (c := k9c8) (by decide +kernel) rfl rfl rfl (by decide +kernel)
set_option maxRecDepth 65536 in
theorem w_c9 : (Jvm.Cond.code ({ cls := "java/lang/StringUTF16", name := "compress", desc := "([CI[BII)I" } : Jvm.MethodName) jdk_52_method_21_code (7 : Nat) (Option.some Jvm.ClassFile.FieldType.int)).before args0 about1 = true := code_word (m := ⟨9, 9⟩) (meth := k9m9) (c := k9c9) (by decide +kernel) rfl rfl rfl (by decide +kernel)
set_option maxRecDepth 65536 in
theorem w_c10 : (Jvm.Cond.code ({ cls := "java/lang/StringUTF16", name := "coderFromArrayLen", desc := "([BI)B" } : Jvm.MethodName) jdk_52_method_15_code (2 : Nat) (Option.some Jvm.ClassFile.FieldType.byte)).before args0 about1 = true := code_word (m := ⟨9, 7⟩) (meth := k9m7) (c := k9c7) (by decide +kernel) rfl rfl rfl (by decide +kernel)
set_option maxRecDepth 65536 in
theorem w_c11 : (Jvm.Cond.code ({ cls := "com/example/headwater/headwater/core/HttpFields", name := "isFieldValue", desc := "(Ljava/lang/String;)Z" } : Jvm.MethodName) prog_27_method_5_code (4 : Nat) (Option.some Jvm.ClassFile.FieldType.boolean)).before args0 about1 = true := code_word (m := ⟨11, 0⟩) (meth := k11m0) (c := k11c0) (by decide +kernel) rfl rfl rfl (by decide +kernel)
set_option maxRecDepth 65536 in
theorem w_c12 : (Jvm.Cond.code ({ cls := "java/lang/String", name := "length", desc := "()I" } : Jvm.MethodName) jdk_42_method_54_code (1 : Nat) (Option.some Jvm.ClassFile.FieldType.int)).before args0 about1 = true := code_word (m := ⟨7, 2⟩) (meth := k7m2) (c := k7c2) (by decide +kernel) rfl rfl rfl (by decide +kernel)
set_option maxRecDepth 65536 in
theorem w_c13 : (Jvm.Cond.code ({ cls := "java/lang/String", name := "coder", desc := "()B" } : Jvm.MethodName) jdk_42_method_152_code (1 : Nat) (Option.some Jvm.ClassFile.FieldType.byte)).before args0 about1 = true := code_word (m := ⟨7, 7⟩) (meth := k7m7) (c := k7c7) (by decide +kernel) rfl rfl rfl (by decide +kernel)
set_option maxRecDepth 65536 in
theorem w_c14 : (Jvm.Cond.code ({ cls := "java/lang/String", name := "charAt", desc := "(I)C" } : Jvm.MethodName) jdk_42_method_56_code (2 : Nat) (Option.some Jvm.ClassFile.FieldType.char)).before args0 about1 = true := code_word (m := ⟨7, 3⟩) (meth := k7m3) (c := k7c3) (by decide +kernel) rfl rfl rfl (by decide +kernel)
set_option maxRecDepth 65536 in
theorem w_c15 : (Jvm.Cond.code ({ cls := "java/lang/String", name := "isLatin1", desc := "()Z" } : Jvm.MethodName) jdk_42_method_154_code (1 : Nat) (Option.some Jvm.ClassFile.FieldType.boolean)).before args0 about1 = true := code_word (m := ⟨7, 8⟩) (meth := k7m8) (c := k7c8) (by decide +kernel) rfl rfl rfl (by decide +kernel)
set_option maxRecDepth 65536 in
theorem w_c16 : (Jvm.Cond.code ({ cls := "java/lang/StringLatin1", name := "charAt", desc := "([BI)C" } : Jvm.MethodName) jdk_43_method_2_code (2 : Nat) (Option.some Jvm.ClassFile.FieldType.char)).before args0 about1 = true := code_word (m := ⟨8, 1⟩) (meth := k8m1) (c := k8c1) (by decide +kernel) rfl rfl rfl (by decide +kernel)
set_option maxRecDepth 65536 in
theorem w_c17 : (Jvm.Cond.code ({ cls := "java/lang/String", name := "checkIndex", desc := "(II)V" } : Jvm.MethodName) jdk_42_method_155_code (2 : Nat) (Option.none : Option Jvm.ClassFile.FieldType)).before args0 about1 = true := code_word (m := ⟨7, 9⟩) (meth := k7m9) (c := k7c9) (by decide +kernel) rfl rfl rfl (by decide +kernel)
set_option maxRecDepth 65536 in
theorem w_c18 : (Jvm.Cond.code ({ cls := "jdk/internal/util/Preconditions", name := "checkIndex", desc := "(IILjava/util/function/BiFunction;)I" } : Jvm.MethodName) jdk_41_method_11_code (3 : Nat) (Option.some Jvm.ClassFile.FieldType.int)).before args0 about1 = true := code_word (m := ⟨12, 1⟩) (meth := k12m1) (c := k12c1) (by decide +kernel) rfl rfl rfl (by decide +kernel)
set_option maxRecDepth 65536 in
theorem w_c19 : (Jvm.Cond.code ({ cls := "java/lang/Character", name := "isISOControl", desc := "(C)Z" } : Jvm.MethodName) jdk_89_method_88_code (1 : Nat) (Option.some Jvm.ClassFile.FieldType.boolean)).before args0 about1 = true := code_word (m := ⟨13, 0⟩) (meth := k13m0) (c := k13c0) (by decide +kernel) rfl rfl rfl (by decide +kernel)
set_option maxRecDepth 65536 in
theorem w_c20 : (Jvm.Cond.code ({ cls := "java/lang/Character", name := "isISOControl", desc := "(I)Z" } : Jvm.MethodName) jdk_89_method_89_code (1 : Nat) (Option.some Jvm.ClassFile.FieldType.boolean)).before args0 about1 = true := code_word (m := ⟨13, 1⟩) (meth := k13m1) (c := k13c1) (by decide +kernel) rfl rfl rfl (by decide +kernel)
set_option maxRecDepth 65536 in
theorem w_c21 : (Jvm.Cond.code ({ cls := "com/example/headwater/headwater/core/HttpFieldsIsFieldValuePinLaw", name := "ok", desc := "(C)Z" } : Jvm.MethodName) method_2_code (1 : Nat) (Option.some Jvm.ClassFile.FieldType.boolean)).before args0 about1 = true := code_word (m := ⟨1, 1⟩) (meth := k1m1) (c := k1c1) (by decide +kernel) rfl rfl rfl (by decide +kernel)
set_option maxRecDepth 65536 in
theorem w_c22 : (Jvm.Cond.code ({ cls := "java/lang/StringUTF16", name := "toBytes", desc := "(C)[B" } : Jvm.MethodName) jdk_52_method_24_code (2 : Nat) (Option.some (Jvm.ClassFile.FieldType.array Jvm.ClassFile.FieldType.byte))).before args0 about1 = true := code_word (m := ⟨9, 10⟩) (meth := k9m10) (c := k9c10) (by decide +kernel) rfl rfl rfl (by decide +kernel)
set_option maxRecDepth 65536 in
theorem w_c23 : (Jvm.Cond.code ({ cls := "java/lang/StringUTF16", name := "putChar", desc := "([BII)V" } : Jvm.MethodName) jdk_52_method_4_code (3 : Nat) (Option.none : Option Jvm.ClassFile.FieldType)).before args0 about1 = true := code_word (m := ⟨9, 3⟩) (meth := k9m3) (c := k9c3) (by decide +kernel) rfl rfl rfl (by decide +kernel)
set_option maxRecDepth 65536 in
theorem w_c24 : (Jvm.Cond.code ({ cls := "java/lang/StringUTF16", name := "toBytes", desc := "([CII)[B" } : Jvm.MethodName) jdk_52_method_14_code (5 : Nat) (Option.some (Jvm.ClassFile.FieldType.array Jvm.ClassFile.FieldType.byte))).before args0 about1 = true := code_word (m := ⟨9, 6⟩) (meth := k9m6) (c := k9c6) (by decide +kernel) rfl rfl rfl (by decide +kernel)
set_option maxRecDepth 65536 in
theorem w_c25 : (Jvm.Cond.code ({ cls := "java/lang/StringUTF16", name := "newBytesFor", desc := "(I)[B" } : Jvm.MethodName) jdk_52_method_2_code (1 : Nat) (Option.some (Jvm.ClassFile.FieldType.array Jvm.ClassFile.FieldType.byte))).before args0 about1 = true := code_word (m := ⟨9, 1⟩) (meth := k9m1) (c := k9c1) (by decide +kernel) rfl rfl rfl (by decide +kernel)
set_option maxRecDepth 65536 in
theorem w_c26 : (Jvm.Cond.code ({ cls := "java/lang/StringUTF16", name := "newBytesLength", desc := "(I)I" } : Jvm.MethodName) jdk_52_method_3_code (1 : Nat) (Option.some Jvm.ClassFile.FieldType.int)).before args0 about1 = true := code_word (m := ⟨9, 2⟩) (meth := k9m2) (c := k9c2) (by decide +kernel) rfl rfl rfl (by decide +kernel)
set_option maxRecDepth 65536 in
theorem w_c27 : (Jvm.Cond.code ({ cls := "java/lang/StringUTF16", name := "getChar", desc := "([BI)C" } : Jvm.MethodName) jdk_52_method_5_code (2 : Nat) (Option.some Jvm.ClassFile.FieldType.char)).before args0 about1 = true := code_word (m := ⟨9, 4⟩) (meth := k9m4) (c := k9c4) (by decide +kernel) rfl rfl rfl (by decide +kernel)
set_option maxRecDepth 65536 in
theorem w_c28 : (Jvm.Cond.code ({ cls := "java/lang/StringUTF16", name := "charAt", desc := "([BI)C" } : Jvm.MethodName) jdk_52_method_83_code (2 : Nat) (Option.some Jvm.ClassFile.FieldType.char)).before args0 about1 = true := code_word (m := ⟨9, 11⟩) (meth := k9m11) (c := k9c11) (by decide +kernel) rfl rfl rfl (by decide +kernel)
set_option maxRecDepth 65536 in
theorem w_c29 : (Jvm.Cond.code ({ cls := "java/lang/StringUTF16", name := "checkIndex", desc := "(I[B)V" } : Jvm.MethodName) jdk_52_method_91_code (2 : Nat) (Option.none : Option Jvm.ClassFile.FieldType)).before args0 about1 = true := code_word (m := ⟨9, 12⟩) (meth := k9m12) (c := k9c12) (by decide +kernel) rfl rfl rfl (by decide +kernel)
set_option maxRecDepth 65536 in
theorem w_c30 : (Jvm.Cond.code ({ cls := "java/lang/StringUTF16", name := "length", desc := "([B)I" } : Jvm.MethodName) jdk_52_method_6_code (1 : Nat) (Option.some Jvm.ClassFile.FieldType.int)).before args0 about1 = true := code_word (m := ⟨9, 5⟩) (meth := k9m5) (c := k9c5) (by decide +kernel) rfl rfl rfl (by decide +kernel)
def codes1 : List Jvm.Cond := [Jvm.Cond.code x code maxLocals ret, Jvm.Cond.code ({ cls := "java/lang/String", name := "<init>", desc := "([C)V" } : Jvm.MethodName) jdk_42_method_3_code (2 : Nat) (Option.none : Option Jvm.ClassFile.FieldType), Jvm.Cond.code ({ cls := "java/lang/String", name := "<init>", desc := "([CIILjava/lang/Void;)V" } : Jvm.MethodName) jdk_42_method_149_code (6 : Nat) (Option.none : Option Jvm.ClassFile.FieldType), Jvm.Cond.code ({ cls := "java/lang/Object", name := "<init>", desc := "()V" } : Jvm.MethodName) object_method_1_code (1 : Nat) (Option.none : Option Jvm.ClassFile.FieldType), Jvm.Cond.code ({ cls := "java/lang/String", name := "valueOf", desc := "(C)Ljava/lang/String;" } : Jvm.MethodName) jdk_42_method_139_code (1 : Nat) (Option.some (Jvm.ClassFile.FieldType.object "java/lang/String")), Jvm.Cond.code ({ cls := "java/lang/StringLatin1", name := "canEncode", desc := "(C)Z" } : Jvm.MethodName) jdk_43_method_3_code (1 : Nat) (Option.some Jvm.ClassFile.FieldType.boolean), Jvm.Cond.code ({ cls := "java/lang/StringLatin1", name := "toBytes", desc := "(C)[B" } : Jvm.MethodName) jdk_43_method_46_code (1 : Nat) (Option.some (Jvm.ClassFile.FieldType.array Jvm.ClassFile.FieldType.byte)), Jvm.Cond.code ({ cls := "java/lang/String", name := "<init>", desc := "([BB)V" } : Jvm.MethodName) jdk_42_method_151_code (3 : Nat) (Option.none : Option Jvm.ClassFile.FieldType), Jvm.Cond.code ({ cls := "java/lang/StringUTF16", name := "compress", desc := "([CII)[B" } : Jvm.MethodName) jdk_52_method_16_code (6 : Nat) (Option.some (Jvm.ClassFile.FieldType.array Jvm.ClassFile.FieldType.byte)), Jvm.Cond.code ({ cls := "java/lang/StringUTF16", name := "compress", desc := "([CI[BII)I" } : Jvm.MethodName) jdk_52_method_21_code (7 : Nat) (Option.some Jvm.ClassFile.FieldType.int), Jvm.Cond.code ({ cls := "java/lang/StringUTF16", name := "coderFromArrayLen", desc := "([BI)B" } : Jvm.MethodName) jdk_52_method_15_code (2 : Nat) (Option.some Jvm.ClassFile.FieldType.byte), Jvm.Cond.code ({ cls := "com/example/headwater/headwater/core/HttpFields", name := "isFieldValue", desc := "(Ljava/lang/String;)Z" } : Jvm.MethodName) prog_27_method_5_code (4 : Nat) (Option.some Jvm.ClassFile.FieldType.boolean), Jvm.Cond.code ({ cls := "java/lang/String", name := "length", desc := "()I" } : Jvm.MethodName) jdk_42_method_54_code (1 : Nat) (Option.some Jvm.ClassFile.FieldType.int), Jvm.Cond.code ({ cls := "java/lang/String", name := "coder", desc := "()B" } : Jvm.MethodName) jdk_42_method_152_code (1 : Nat) (Option.some Jvm.ClassFile.FieldType.byte), Jvm.Cond.code ({ cls := "java/lang/String", name := "charAt", desc := "(I)C" } : Jvm.MethodName) jdk_42_method_56_code (2 : Nat) (Option.some Jvm.ClassFile.FieldType.char), Jvm.Cond.code ({ cls := "java/lang/String", name := "isLatin1", desc := "()Z" } : Jvm.MethodName) jdk_42_method_154_code (1 : Nat) (Option.some Jvm.ClassFile.FieldType.boolean), Jvm.Cond.code ({ cls := "java/lang/StringLatin1", name := "charAt", desc := "([BI)C" } : Jvm.MethodName) jdk_43_method_2_code (2 : Nat) (Option.some Jvm.ClassFile.FieldType.char), Jvm.Cond.code ({ cls := "java/lang/String", name := "checkIndex", desc := "(II)V" } : Jvm.MethodName) jdk_42_method_155_code (2 : Nat) (Option.none : Option Jvm.ClassFile.FieldType), Jvm.Cond.code ({ cls := "jdk/internal/util/Preconditions", name := "checkIndex", desc := "(IILjava/util/function/BiFunction;)I" } : Jvm.MethodName) jdk_41_method_11_code (3 : Nat) (Option.some Jvm.ClassFile.FieldType.int), Jvm.Cond.code ({ cls := "java/lang/Character", name := "isISOControl", desc := "(C)Z" } : Jvm.MethodName) jdk_89_method_88_code (1 : Nat) (Option.some Jvm.ClassFile.FieldType.boolean), Jvm.Cond.code ({ cls := "java/lang/Character", name := "isISOControl", desc := "(I)Z" } : Jvm.MethodName) jdk_89_method_89_code (1 : Nat) (Option.some Jvm.ClassFile.FieldType.boolean), Jvm.Cond.code ({ cls := "com/example/headwater/headwater/core/HttpFieldsIsFieldValuePinLaw", name := "ok", desc := "(C)Z" } : Jvm.MethodName) method_2_code (1 : Nat) (Option.some Jvm.ClassFile.FieldType.boolean), Jvm.Cond.code ({ cls := "java/lang/StringUTF16", name := "toBytes", desc := "(C)[B" } : Jvm.MethodName) jdk_52_method_24_code (2 : Nat) (Option.some (Jvm.ClassFile.FieldType.array Jvm.ClassFile.FieldType.byte)), Jvm.Cond.code ({ cls := "java/lang/StringUTF16", name := "putChar", desc := "([BII)V" } : Jvm.MethodName) jdk_52_method_4_code (3 : Nat) (Option.none : Option Jvm.ClassFile.FieldType), Jvm.Cond.code ({ cls := "java/lang/StringUTF16", name := "toBytes", desc := "([CII)[B" } : Jvm.MethodName) jdk_52_method_14_code (5 : Nat) (Option.some (Jvm.ClassFile.FieldType.array Jvm.ClassFile.FieldType.byte)), Jvm.Cond.code ({ cls := "java/lang/StringUTF16", name := "newBytesFor", desc := "(I)[B" } : Jvm.MethodName) jdk_52_method_2_code (1 : Nat) (Option.some (Jvm.ClassFile.FieldType.array Jvm.ClassFile.FieldType.byte)), Jvm.Cond.code ({ cls := "java/lang/StringUTF16", name := "newBytesLength", desc := "(I)I" } : Jvm.MethodName) jdk_52_method_3_code (1 : Nat) (Option.some Jvm.ClassFile.FieldType.int), Jvm.Cond.code ({ cls := "java/lang/StringUTF16", name := "getChar", desc := "([BI)C" } : Jvm.MethodName) jdk_52_method_5_code (2 : Nat) (Option.some Jvm.ClassFile.FieldType.char), Jvm.Cond.code ({ cls := "java/lang/StringUTF16", name := "charAt", desc := "([BI)C" } : Jvm.MethodName) jdk_52_method_83_code (2 : Nat) (Option.some Jvm.ClassFile.FieldType.char), Jvm.Cond.code ({ cls := "java/lang/StringUTF16", name := "checkIndex", desc := "(I[B)V" } : Jvm.MethodName) jdk_52_method_91_code (2 : Nat) (Option.none : Option Jvm.ClassFile.FieldType), Jvm.Cond.code ({ cls := "java/lang/StringUTF16", name := "length", desc := "([B)I" } : Jvm.MethodName) jdk_52_method_6_code (1 : Nat) (Option.some Jvm.ClassFile.FieldType.int)]
set_option maxRecDepth 65536 in
theorem codes_eq : words1.filter isCode = codes1 := rfl
theorem w_codes : ∀ c ∈ words1.filter isCode, c.before args0 about1 = true := by
  rw [codes_eq]
  intro c hc
  simp only [codes1, List.mem_cons, List.not_mem_nil, or_false] at hc
  rcases hc with rfl | rfl | rfl | rfl | rfl | rfl | rfl | rfl | rfl | rfl | rfl | rfl | rfl | rfl | rfl | rfl | rfl | rfl | rfl | rfl | rfl | rfl | rfl | rfl | rfl | rfl | rfl | rfl | rfl | rfl | rfl
  · exact w_c0
  · exact w_c1
  · exact w_c2
  · exact w_c3
  · exact w_c4
  · exact w_c5
  · exact w_c6
  · exact w_c7
  · exact w_c8
  · exact w_c9
  · exact w_c10
  · exact w_c11
  · exact w_c12
  · exact w_c13
  · exact w_c14
  · exact w_c15
  · exact w_c16
  · exact w_c17
  · exact w_c18
  · exact w_c19
  · exact w_c20
  · exact w_c21
  · exact w_c22
  · exact w_c23
  · exact w_c24
  · exact w_c25
  · exact w_c26
  · exact w_c27
  · exact w_c28
  · exact w_c29
  · exact w_c30
set_option maxRecDepth 65536 in
theorem w_t1 : (words1.take 24).all (fun c => isCode c || c.before args0 about1) = true := by decide +kernel
set_option maxRecDepth 65536 in
theorem w_t2 : ((words1.drop 24).take 24).all (fun c => isCode c || c.before args0 about1) = true := by decide +kernel
set_option maxRecDepth 65536 in
theorem w_t3 : (((words1.drop 24).drop 24).take 24).all (fun c => isCode c || c.before args0 about1) = true := by decide +kernel
set_option maxRecDepth 65536 in
theorem w_t4 : ((((words1.drop 24).drop 24).drop 24).take 24).all (fun c => isCode c || c.before args0 about1) = true := by decide +kernel
set_option maxRecDepth 65536 in
theorem w_t5 : (((((words1.drop 24).drop 24).drop 24).drop 24).take 24).all (fun c => isCode c || c.before args0 about1) = true := by decide +kernel
set_option maxRecDepth 65536 in
theorem w_t6 : (((((words1.drop 24).drop 24).drop 24).drop 24).drop 24).all (fun c => isCode c || c.before args0 about1) = true := by decide +kernel
theorem w_tables : (allAtoms (Jvm.Cond.code x code maxLocals ret :: tables_1)).before args0 about1 = true := by
  rw [allAtoms_all]
  show words1.all (fun c => c.before args0 about1) = true
  refine all_split ?_ w_codes
  rw [← List.take_append_drop 24 words1, List.all_append, w_t1, ← List.take_append_drop 24 (words1.drop 24), List.all_append, w_t2, ← List.take_append_drop 24 ((words1.drop 24).drop 24), List.all_append, w_t3, ← List.take_append_drop 24 (((words1.drop 24).drop 24).drop 24), List.all_append, w_t4, ← List.take_append_drop 24 ((((words1.drop 24).drop 24).drop 24).drop 24), List.all_append, w_t5, w_t6]
  rfl
set_option maxRecDepth 65536 in
theorem w_rest : rest_1_c.before args0 about1 = true := by decide +kernel
set_option maxRecDepth 65536 in
theorem w_case : (Jvm.Cond.and given_1 narrow_1).before args0 about1 = true := by decide +kernel
set_option maxRecDepth 65536 in
theorem w_consts : constsHeld consts_1 about1 := Jvm.Lit.constsHeldB_iff.mp (by decide +kernel)
theorem w_applies : (headSpec (Jvm.Cond.code x code maxLocals ret :: tables_1) room_1).applies x e0.platform about1 = true :=
  (Spec.applies_iff w_frames).mpr ⟨w_running, w_runnable, w_alone, w_named, w_hears, w_ripe, w_room, w_tables⟩
theorem atStart : AtStart classFile x code maxLocals ret World_1 tables_1 room_1 Calls_1 rest_1 Pre_1 launch0 p0 e0 about1 theMethod args0 below0 :=
  ⟨lists_1, trivial, launch0.admits_env _ _ _, launch0.least_env, fairChoices_fair.cas, fairChoices_fair.clock, w_frames, w_args, w_heap, w_applies, ⟨w_consts, trivial⟩, w_rest, w_case⟩
end start1
theorem witness_1 : WitnessClaimed_1 := ⟨start1.p0, start1.e0, start1.about1, start1.theMethod, start1.args0, start1.below0, start1.atStart⟩
end Jvm.Pilot.@@N@@
