import JvmDerived
import JvmDerived.Pilot.@@N@@Statement
import JvmDerived.Pilot.@@N@@Code
set_option linter.unusedVariables false
set_option linter.unusedSimpArgs false

namespace Jvm.RoadKit
open Sem ClassFile Op Lib Jvm.Stand Jvm.Free Jvm.LawKit
section New
variable {p : Program} {l : Launch} {e : Env} {R : Room} {s : State} {m : MethodId} {args : Array Value} {below : List Frame} {meth : Method} {c : Code} {T : State} {locs : List Loc} {cells slots : Nat}
theorem retI (X : Stand p l e R s m args below meth c T locs cells slots) (hx : p.tables.exec = Jvm.exec) {pc : Nat} {Ls : Array Slot} {z : Int32} {rest : List Value} (hret : meth.sig.returnType = some .int) (hd : decode c.code pc = .ok (.ireturn, 1)) {fs : List Frame}
    (hl : ∀ (f : JFrame) (acts : List Action), f.method = m → f.locked = none → f.entered = [] → (doReturn e (T.setTop f) acts (some (.int z))).1 = T.setFrames fs) : Steps p.tables e below (T.setTop (mkF m pc Ls (.int z :: rest))) (T.setFrames fs) := by
  have hm' : T.vm.method? m = some meth := X.method'
  have hn : narrow .int (.int z) = .int z := rfl
  show Steps p.tables e below (T.setTop { method := m, pc := pc, locals := Ls, stack := _ :: rest, locked := none }) _
  jvm_step X.here [X.here.top, hx, hd, hm', hret, hn]
  first | (intro acts; rw [hl _ acts rfl rfl rfl]) | rw [hl _ _ rfl rfl rfl]
  exact Steps.refl _
end New
end Jvm.RoadKit

namespace Jvm.Pilot.@@N@@
open Jvm Jvm.ClassFile Sem Op Lib Jvm.Free Jvm.Stand Jvm.LawKit Jvm.RoadKit Bundle Jvm.Pilot.@@N@@.Jvm.D
set_option maxRecDepth 65536
set_option maxHeartbeats 40000000
theorem own_stak {Z : State} {h h' : Heap} {C n d : String} {v : Value} {ws : List Addr} (F : Sta Z h C n d v) (K : Keep h h' ws) (q : ∀ x ∈ ws, ∀ c : Cell, h[x]? = some c → c.vm.isStatics = false) : Sta Z h' C n d v := by
  obtain ⟨cf, i, k, f, st, cell, h1, h2, h3, h4, h5, h6, h7⟩ := F
  refine ⟨cf, i, k, f, st, cell, h1, h2, h3, h4, K.2.1 st cell h5 (fun hm => ?_), h6, h7⟩
  have e := q st hm cell h5
  rw [h6] at e; cases e
theorem own_exns {Z : State} {h : Heap} {a : Addr} {C : String} (E : Exa Z h a C) : ∀ c : Cell, h[a]? = some c → c.vm.isStatics = false := fun c hc => by
  obtain ⟨c', k, e1, -, -, e4, -⟩ := E
  cases hc.symm.trans e1; exact e4
theorem own_arns {Z : State} {h : Heap} {a : Addr} {k : ClassId} {ty : FieldType} {z : Int32} {vs : List Value} {d : Value} (A : Arv Z h a k ty z vs d) : ∀ c : Cell, h[a]? = some c → c.vm.isStatics = false := fun c hc => by
  obtain ⟨c', A', -⟩ := A
  have e := A'.plain
  cases hc.symm.trans A'.1; exact e
abbrev oS (p : Program) (e : Env) (below : List Frame) (T : State) (g : JFrame) (t : State) : Prop := Steps p.tables e below (T.setTop g) t
theorem own_w (i : Nat) {d : Jvm.Cond} (h : tables_1[i]? = some d) : d ∈ tables_1 := List.mem_of_getElem? h
abbrev own_Met (l : Launch) (y : MethodName) (bytes : ByteArray) (maxL : Nat) (ret : Option FieldType) (ws : List Jvm.Cond) (rm : Room) (as' : Array Value) (Z : State) (h0 : Heap) (Q : Option Value → Heap → List Loc → Prop) : Prop :=
  MetFree l y (head1 (Jvm.Cond.code y bytes maxL ret :: ws) rm) (fun aU U => aU = as' ∧ Z.Warmed39 U.vm ∧ U.heap = h0) (fun _ _ _ _ _ => True) (fun _ U oU U' => ∃ vU LU, oU = .returned vU ∧ Q vU U'.heap LU ∧ FrameEnd U oU U' LU rm.cells rm.slots)
theorem own_weak {l : Launch} {y : MethodName} {bytes : ByteArray} {maxL : Nat} {ret : Option FieldType} {ws : List Jvm.Cond} {rm : Room} {as' : Array Value} {Z : State} {h0 : Heap} {Q Q' : Option Value → Heap → List Loc → Prop} (h : own_Met l y bytes maxL ret ws rm as' Z h0 Q) (hq : ∀ v t L, Q v t L → Q' v t L) : own_Met l y bytes maxL ret ws rm as' Z h0 Q' := by
  intro p e ha hc hk s m args below hf happ hP hK
  obtain ⟨n, o, h1, h2, h3, v, L, h4, h5, h6⟩ := h p e ha hc hk s m args below hf happ hP hK
  exact ⟨n, o, h1, h2, h3, v, L, h4, hq _ _ _ h5, h6⟩
theorem own_start {p : Program} {l : Launch} {y : MethodName} {ws : List Jvm.Cond} {rm : Room} {code : ByteArray} {maxL : Nat} {ret : Option FieldType} {e : Env} {s : State} {m : MethodId} {args : Array Value} {below : List Frame} {meth : Method} {c : Code} {s₁ : State} {h0 : Heap}
    (Bd : BodyLoose p l y (head1 ws rm) code maxL ret e s m args below meth c s₁) (hml : c.maxLocals = maxL) (hh : s.heap = h0) :
    p.tables.exec = Jvm.exec ∧ c.code = code ∧ s.vm.findClass y.cls = some m.cls ∧ meth.name = y.name ∧ Stand p l e rm s m args below meth c s₁ [] 0 0 ∧ s₁.heap = h0 :=
  ⟨Bd.exec, Bd.bytes, findClass_of_methodNamed Bd.named, (name_of_methodNamed Bd.named Bd.method).1, Stand.of_body Bd, by rw [← hh, Bd.state]; rfl⟩
section OwnCalls
variable {p : Program} {l : Launch} {e : Env} {R : Room} {s : State} {m : MethodId} {args : Array Value} {below : List Frame} {meth : Method} {c : Code} {T : State} {locs : List Loc} {cells slots : Nat} {Z : State} {a0 : Array Value} {h : Heap}
  {own : String} {index : Nat} {y z : MethodName} {bytes : ByteArray} {maxL : Nat} {ret : Option FieldType} {rm : Room} {W : Nat} {as' : Array Value} {Q : Option Value → Heap → List Loc → Prop}
theorem own_callS (X : Stand p l e R s m args below meth c T locs cells slots) (hx : p.tables.exec = Jvm.exec) (hZ : Z.Warmed39 s.vm) (hown : s.vm.findClass own = some m.cls) (hlink : (Cond.methodLink own index y).before a0 Z = true) (hstat : (Cond.static y).before a0 Z = true) (hinit : (Cond.initialized y.cls).before a0 Z = true)
    (hcode : (Cond.code y bytes maxL ret).before a0 Z = true) (hy : y.cls ≠ "java/lang/invoke/MethodHandle" ∧ y.cls ≠ "java/lang/invoke/VarHandle")
    (hM : own_Met l y bytes maxL ret [] rm as' Z h Q)
    (hf : rm.frames + 1 ≤ R.frames) (hl : W + (maxL + 11) + rm.locals ≤ R.locals) {g : JFrame} (hg : g.method = m) (hsize : g.locals.size = c.maxLocals) {argsL rest : List Value} (hlen : ∀ sig, parseMethodDescriptor y.desc = some sig → argsL.length = sig.parameters.length)
    (hstack : g.stack = argsL.reverse ++ rest) (hdg : decode c.code g.pc = .ok (.invokestatic index, 3)) (has : argsL.toArray = as') (eT : T.heap = h) (hc : cells + rm.cells ≤ R.cells) (hs : slots + rm.slots ≤ R.slots) (hW : 2 * g.monitorRoom + (rest.map fun v => v.category).sum ≤ W := by show 2 * 0 + _ ≤ _; exact Nat.le_of_eq rfl) :
    ∃ (v : Option Value) (T' : State) (L : List Loc), Stand p l e R s m args below meth c T' (locs ++ L) (cells + rm.cells) (slots + rm.slots) ∧ Q v T'.heap L ∧ ∀ target, Steps p.tables e below (T'.setTop { g with pc := g.pc + 3, stack := v.toList ++ rest }) target → Steps p.tables e below (T.setTop g) target := by
  obtain ⟨v, _, ⟨T3, L3, k3, n3⟩, -, X3, ⟨Lc3, hQ3, l3, y3, z3⟩, st3⟩ := Jvm.LawKit.callS X hx hown (mvT hZ hlink) (mvT hZ hstat) (mvT hZ hinit) (mvT hZ hcode) hy (backOf (W := W) hM hZ hcode hinit hf hl) hg hsize hlen hstack hW hdg (fun _ _ => ⟨has, eT, hc, hs⟩)
  dsimp only [Pt.U, Pt.locs, Pt.cells, Pt.slots] at X3 l3 y3 z3 st3 hQ3
  subst l3 y3 z3
  exact ⟨v, T3, Lc3, X3, hQ3, st3⟩
theorem own_special (X : Stand p l e R s m args below meth c T locs cells slots) (hx : p.tables.exec = Jvm.exec) (hZ : Z.Warmed39 s.vm) (hy1 : y.name = "<init>") (hown : s.vm.findClass own = some m.cls) (hlink : (Cond.methodLink own index y).before a0 Z = true) (hinst : (Cond.instanceMethod y).before a0 Z = true)
    (hcode : (Cond.code y bytes maxL none).before a0 Z = true) (hinit : (Cond.initialized y.cls).before a0 Z = true) (hy : y.cls ≠ "java/lang/invoke/MethodHandle" ∧ y.cls ≠ "java/lang/invoke/VarHandle")
    (hM : own_Met l y bytes maxL none [] rm as' Z h Q)
    (hf : rm.frames + 1 ≤ R.frames) (hl : W + (maxL + 11) + rm.locals ≤ R.locals) {g : JFrame} (hg : g.method = m) (hsize : g.locals.size = c.maxLocals) {a : Addr} {argsL rest : List Value} (hlen : ∀ sig, parseMethodDescriptor y.desc = some sig → argsL.length = sig.parameters.length)
    (hstack : g.stack = argsL.reverse ++ .ref a :: rest) (hdg : decode c.code g.pc = .ok (.invokespecial index, 3)) (has : (.ref a :: argsL).toArray = as') (eT : T.heap = h) (hc : cells + rm.cells ≤ R.cells) (hs : slots + rm.slots ≤ R.slots) (hW : 2 * g.monitorRoom + (rest.map fun v => v.category).sum ≤ W := by show 2 * 0 + _ ≤ _; exact Nat.le_of_eq rfl) :
    ∃ (v : Option Value) (T' : State) (L : List Loc), Stand p l e R s m args below meth c T' (locs ++ L) (cells + rm.cells) (slots + rm.slots) ∧ Q v T'.heap L ∧ ∀ target, Steps p.tables e below (T'.setTop { g with pc := g.pc + 3, stack := v.toList ++ rest }) target → Steps p.tables e below (T.setTop g) target := by
  obtain ⟨v, _, ⟨T3, L3, k3, n3⟩, -, X3, ⟨Lc3, hQ3, l3, y3, z3⟩, st3⟩ := X.specialBack hx hy1 hown (mvT hZ hlink) (mvT hZ hinst) (mvT hZ hcode) hy (backOf (W := W) hM hZ hcode hinit hf hl) hg hsize (Steps.refl _) hlen hstack hW hdg (fun _ _ => ⟨has, eT, hc, hs⟩)
  dsimp only [Pt.U, Pt.locs, Pt.cells, Pt.slots] at X3 l3 y3 z3 st3 hQ3
  subst l3 y3 z3
  exact ⟨v, T3, Lc3, X3, hQ3, fun target k => st3.trans k⟩
theorem own_virtual (X : Stand p l e R s m args below meth c T locs cells slots) (hx : p.tables.exec = Jvm.exec) (hZ : Z.Warmed39 s.vm) {C : String} (hown : s.vm.findClass own = some m.cls) (hlink : (Cond.methodLink own index y).before a0 Z = true) (hdecl : (Cond.declares y).before a0 Z = true) (hnf : NotFace s y) (hsel : (Cond.selects C y z).before a0 Z = true) (hinst : (Cond.instanceMethod z).before a0 Z = true)
    (hcode : (Cond.code z bytes maxL ret).before a0 Z = true) (hinit : (Cond.initialized z.cls).before a0 Z = true) (hy : y.cls ≠ "java/lang/invoke/MethodHandle" ∧ y.cls ≠ "java/lang/invoke/VarHandle")
    (hM : own_Met l z bytes maxL ret [] rm as' Z h Q)
    (hf : rm.frames + 1 ≤ R.frames) (hl : W + (maxL + 11) + rm.locals ≤ R.locals) {a : Addr} (E : Exa Z h a C) {g : JFrame} (hg : g.method = m) (hsize : g.locals.size = c.maxLocals) {argsL rest : List Value} (hlen : ∀ sig, parseMethodDescriptor y.desc = some sig → argsL.length = sig.parameters.length)
    (hstack : g.stack = argsL.reverse ++ .ref a :: rest) (hdg : decode c.code g.pc = .ok (.invokevirtual index, 3)) (has : (.ref a :: argsL).toArray = as') (eT : T.heap = h) (hc : cells + rm.cells ≤ R.cells) (hs : slots + rm.slots ≤ R.slots) (hW : 2 * g.monitorRoom + (rest.map fun v => v.category).sum ≤ W := by show 2 * 0 + _ ≤ _; exact Nat.le_of_eq rfl) :
    ∃ (v : Option Value) (T' : State) (L : List Loc), Stand p l e R s m args below meth c T' (locs ++ L) (cells + rm.cells) (slots + rm.slots) ∧ Q v T'.heap L ∧ ∀ target, Steps p.tables e below (T'.setTop { g with pc := g.pc + 3, stack := v.toList ++ rest }) target → Steps p.tables e below (T.setTop g) target := by
  obtain ⟨cq, kq, qa, qb, qc⟩ := isOf hZ eT E
  obtain ⟨v, _, ⟨T3, L3, k3, n3⟩, -, X3, ⟨Lc3, hQ3, l3, y3, z3⟩, st3⟩ := X.virtualBack hx hown (mvT hZ hlink) (mvT hZ hdecl) hnf (mvT hZ hsel) (mvT hZ hinst) hy (backOf (W := W) hM hZ hcode hinit hf hl) qa qc hg hsize (Steps.refl _) hlen hstack hW hdg (fun _ _ => ⟨has, eT, hc, hs⟩)
  dsimp only [Pt.U, Pt.locs, Pt.cells, Pt.slots] at X3 l3 y3 z3 st3 hQ3
  subst l3 y3 z3
  exact ⟨v, T3, Lc3, X3, hQ3, fun target k => st3.trans k⟩
end OwnCalls
theorem oq {Z : State} {av0 : Array Value} (hw : ∀ d ∈ tables_1, d.before av0 Z = true) (i : Nat) {d : Jvm.Cond} (h : tables_1[i]? = some d) : d.before av0 Z = true := hw d (own_w i h)
abbrev oL (b : ByteArray) (L : List (Nat × Instr × Nat)) : Prop := L.all (fun q => decide (decode b q.1 = .ok q.2)) = true
theorem oY {c : Code} {b : ByteArray} {L : List (Nat × Instr × Nat)} (hby : c.code = b) (h : oL b L) (i : Nat) {pc : Nat} {r : Instr} {n : Nat} (e : L[i]? = some (pc, r, n)) : decode c.code pc = .ok (r, n) := hb hby (of_decide_eq_true (List.all_eq_true.mp h (pc, r, n) (List.mem_of_getElem? e)))
abbrev mN0 : MethodName := ⟨"java/lang/String", "coder", "()B"⟩
abbrev mN1 : MethodName := ⟨"java/lang/String", "length", "()I"⟩
abbrev mN2 : MethodName := ⟨"java/lang/Math", "max", "(II)I"⟩
abbrev mN3 : MethodName := ⟨"java/lang/Math", "min", "(II)I"⟩
abbrev mN4 : MethodName := ⟨"jdk/internal/util/ArraysSupport", "newLength", "(III)I"⟩
abbrev mN5 : MethodName := ⟨"java/lang/AbstractStringBuilder", "newCapacity", "(I)I"⟩
abbrev mN6 : MethodName := ⟨"java/util/Arrays", "copyOf", "([BI)[B"⟩
abbrev mN7 : MethodName := ⟨"java/lang/AbstractStringBuilder", "ensureCapacityInternal", "(I)V"⟩
abbrev mN8 : MethodName := ⟨"java/lang/AbstractStringBuilder", "inflateIfNeededFor", "(Ljava/lang/String;)V"⟩
abbrev mN9 : MethodName := ⟨"java/lang/String", "getBytes", "([BIB)V"⟩
abbrev mN10 : MethodName := ⟨"java/lang/AbstractStringBuilder", "putStringAt", "(ILjava/lang/String;)V"⟩
abbrev mN11 : MethodName := ⟨"java/lang/AbstractStringBuilder", "append", "(Ljava/lang/String;)Ljava/lang/AbstractStringBuilder;"⟩
abbrev mN12 : MethodName := ⟨"java/lang/StringBuilder", "append", "(Ljava/lang/String;)Ljava/lang/StringBuilder;"⟩
abbrev mN13 : MethodName := ⟨"java/lang/AbstractStringBuilder", "<init>", "(I)V"⟩
abbrev mN14 : MethodName := ⟨"java/lang/StringBuilder", "<init>", "()V"⟩
abbrev mN15 : MethodName := ⟨"java/lang/AbstractStringBuilder", "isLatin1", "()Z"⟩
abbrev mN16 : MethodName := ⟨"java/lang/AbstractStringBuilder", "getValue", "()[B"⟩
abbrev mN17 : MethodName := ⟨"java/lang/AbstractStringBuilder", "length", "()I"⟩
abbrev mN18 : MethodName := ⟨"java/lang/StringBuilder", "length", "()I"⟩
abbrev mN19 : MethodName := ⟨"java/util/Arrays", "checkLength", "(II)V"⟩
abbrev mN20 : MethodName := ⟨"java/util/Arrays", "copyOfRangeByte", "([BII)[B"⟩
abbrev mN21 : MethodName := ⟨"java/util/Arrays", "copyOfRange", "([BII)[B"⟩
abbrev mN22 : MethodName := ⟨"java/lang/String", "<init>", "(Ljava/lang/AbstractStringBuilder;Ljava/lang/Void;)V"⟩
abbrev mN23 : MethodName := ⟨"java/lang/String", "<init>", "(Ljava/lang/StringBuilder;)V"⟩
abbrev mN24 : MethodName := ⟨"java/lang/StringBuilder", "toString", "()Ljava/lang/String;"⟩
abbrev mN25 : MethodName := ⟨"java/lang/Integer", "stringSize", "(I)I"⟩
abbrev mN26 : MethodName := ⟨"java/lang/Long", "stringSize", "(J)I"⟩
abbrev mN27 : MethodName := ⟨"java/lang/Integer", "getChars", "(II[B)I"⟩
abbrev mN28 : MethodName := ⟨"java/lang/Long", "getChars", "(JI[B)I"⟩
abbrev mN29 : MethodName := ⟨"java/lang/AbstractStringBuilder", "append", "(I)Ljava/lang/AbstractStringBuilder;"⟩
abbrev mN30 : MethodName := ⟨"java/lang/StringBuilder", "append", "(I)Ljava/lang/StringBuilder;"⟩
abbrev mN31 : MethodName := ⟨"java/lang/AbstractStringBuilder", "append", "(J)Ljava/lang/AbstractStringBuilder;"⟩
abbrev mN32 : MethodName := ⟨"java/lang/StringBuilder", "append", "(J)Ljava/lang/StringBuilder;"⟩
abbrev mN33 : MethodName := ⟨"jdk/internal/util/Preconditions", "checkIndex", "(IILjava/util/function/BiFunction;)I"⟩
abbrev mN34 : MethodName := ⟨"java/lang/String", "checkIndex", "(II)V"⟩
abbrev mN35 : MethodName := ⟨"java/lang/StringLatin1", "charAt", "([BI)C"⟩
abbrev mN36 : MethodName := ⟨"java/lang/String", "isLatin1", "()Z"⟩
abbrev mN37 : MethodName := ⟨"java/lang/String", "charAt", "(I)C"⟩
abbrev mN38 : MethodName := ⟨"com/example/campofelice/campofelice/MessageToStringPinLaw", "c", "(Ljava/lang/String;ILjava/lang/String;I)I"⟩
abbrev mN39 : MethodName := ⟨"com/example/campofelice/campofelice/MessageToStringPinLaw", "lit", "(Ljava/lang/String;ILjava/lang/String;)I"⟩
abbrev mN40 : MethodName := ⟨"java/lang/Math", "abs", "(J)J"⟩
abbrev mN41 : MethodName := ⟨"com/example/campofelice/campofelice/MessageToStringPinLaw", "d", "(Ljava/lang/String;IJJ)I"⟩
abbrev mN42 : MethodName := ⟨"com/example/campofelice/campofelice/MessageToStringPinLaw", "num", "(Ljava/lang/String;IJ)I"⟩
abbrev mN43 : MethodName := ⟨"java/lang/StringLatin1", "canEncode", "(C)Z"⟩
abbrev mN44 : MethodName := ⟨"java/lang/StringLatin1", "toBytes", "(C)[B"⟩
abbrev mN45 : MethodName := ⟨"java/lang/String", "<init>", "([BB)V"⟩
abbrev mN46 : MethodName := ⟨"java/lang/String", "valueOf", "(C)Ljava/lang/String;"⟩
abbrev mN47 : MethodName := ⟨"java/lang/StringUTF16", "compress", "([CI[BII)I"⟩
abbrev mN48 : MethodName := ⟨"java/lang/StringUTF16", "compress", "([CII)[B"⟩
abbrev mN49 : MethodName := ⟨"java/lang/StringUTF16", "coderFromArrayLen", "([BI)B"⟩
abbrev mN50 : MethodName := ⟨"java/lang/String", "<init>", "([CIILjava/lang/Void;)V"⟩
abbrev mN51 : MethodName := ⟨"java/lang/String", "<init>", "([C)V"⟩
abbrev mN52 : MethodName := ⟨"java/util/Objects", "requireNonNull", "(Ljava/lang/Object;Ljava/lang/String;)Ljava/lang/Object;"⟩
abbrev mN53 : MethodName := ⟨"com/example/campofelice/campofelice/Message", "<init>", "(Ljava/lang/String;[BIJ)V"⟩
abbrev mN54 : MethodName := ⟨"com/example/campofelice/campofelice/Message", "toString", "()Ljava/lang/String;"⟩
theorem own_privateS {p : Program} {l : Launch} {e : Env} {R : Room} {s : State} {m : MethodId} {args : Array Value} {below : List Frame} {meth : Method} {c : Code} {T : State} {locs : List Loc} {cells slots : Nat} {Z : State} {a0 : Array Value} {h : Heap}
    {own : String} {index : Nat} {y : MethodName} {bytes : ByteArray} {maxL : Nat} {ret : Option FieldType} {rm : Room} {W : Nat} {as' : Array Value} {Q : Option Value → Heap → List Loc → Prop}
    (X : Stand p l e R s m args below meth c T locs cells slots) (hx : p.tables.exec = Jvm.exec) (hZ : Z.Warmed39 s.vm) {C : String} (hown : s.vm.findClass own = some m.cls) (hlink : (Cond.methodLink own index y).before a0 Z = true) (hsw : (Cond.selects C y y).before a0 Z = true) (hpriv : (Cond.privateMethod y).before a0 Z = true) (hinst : (Cond.instanceMethod y).before a0 Z = true)
    (hcode : (Cond.code y bytes maxL ret).before a0 Z = true) (hinit : (Cond.initialized y.cls).before a0 Z = true) (hy : y.cls ≠ "java/lang/invoke/MethodHandle" ∧ y.cls ≠ "java/lang/invoke/VarHandle")
    (hM : own_Met l y bytes maxL ret [] rm as' Z h Q)
    (hf : rm.frames + 1 ≤ R.frames) (hl : W + (maxL + 11) + rm.locals ≤ R.locals) {a : Addr} (E : Exa Z h a C) {g : JFrame} (hg : g.method = m) (hsize : g.locals.size = c.maxLocals) {argsL rest : List Value} (hlen : ∀ sig, parseMethodDescriptor y.desc = some sig → argsL.length = sig.parameters.length)
    (hstack : g.stack = argsL.reverse ++ .ref a :: rest) (hdg : decode c.code g.pc = .ok (.invokevirtual index, 3)) (has : (.ref a :: argsL).toArray = as') (eT : T.heap = h) (hc : cells + rm.cells ≤ R.cells) (hs : slots + rm.slots ≤ R.slots) (hW : 2 * g.monitorRoom + (rest.map fun v => v.category).sum ≤ W := by show 2 * 0 + _ ≤ _; exact Nat.le_of_eq rfl) :
    ∃ (v : Option Value) (T' : State) (L : List Loc), Stand p l e R s m args below meth c T' (locs ++ L) (cells + rm.cells) (slots + rm.slots) ∧ Q v T'.heap L ∧ ∀ target, Steps p.tables e below (T'.setTop { g with pc := g.pc + 3, stack := v.toList ++ rest }) target → Steps p.tables e below (T.setTop g) target := by
  obtain ⟨cq, qa, qc⟩ := E.cell
  have hP : s.PrivateAt y := Cond.privateMethod_at (mvP hZ hpriv (args := #[]))
  obtain ⟨mk, methM, hnamed, -⟩ := Cond.instanceMethod_spec (mvT hZ hinst (args := args))
  obtain ⟨k1, hk1, hni⟩ := notFace_of_selects (args := #[]) (mvT hZ hsw) mk hnamed
  have hsel := selects_self_of_private (args := args) (findClass_of_methodNamed hnamed) hk1 hni hP (mvT hZ hinst) hy
  obtain ⟨v, _, ⟨T3, L3, k3, n3⟩, -, X3, ⟨Lc3, hQ3, l3, y3, z3⟩, st3⟩ := X.privateBack hx hown (mvT hZ hlink) (mvT hZ hinst) hsel hP (mvT hZ hcode) hy (backOf (W := W) hM hZ hcode hinit hf hl) hg hsize (Steps.refl _) (by rw [eT]; exact qa) qc hlen hstack hW hdg (fun _ _ => ⟨has, eT, hc, hs⟩)
  dsimp only [Pt.U, Pt.locs, Pt.cells, Pt.slots] at X3 l3 y3 z3 st3 hQ3
  subst l3 y3 z3
  exact ⟨v, T3, Lc3, X3, hQ3, fun target k => st3.trans k⟩
theorem own_same {args : Array Value} {s : State} {y z : MethodName} {C : String} (hyz : z.cls = y.cls) (hsw : (Cond.selects C z z).before args s = true) (hinst : (Cond.instanceMethod y).before args s = true) (hy : y.cls ≠ "java/lang/invoke/MethodHandle" ∧ y.cls ≠ "java/lang/invoke/VarHandle") : (Cond.sameMethod y.cls y.cls y.name y.desc).before args s = true := by
  obtain ⟨mk, methM, hnamed, -⟩ := Cond.instanceMethod_spec hinst
  obtain ⟨c2, r2, m2, q1, q2, q3, q4, kP, hkP, hkPi⟩ := Cond.selects_spec hsw
  have hc := findClass_of_methodNamed hnamed
  have hz := findClass_of_methodNamed q3
  rw [hyz, hc] at hz
  have hm : m2.cls = mk.cls := (Option.some.inj hz).symm
  have hf := State.methodFound?_of_named hnamed hy
  rw [hm] at hkP
  have hn : s.methodNamed? ⟨y.cls, y.name, y.desc⟩ = some mk := hnamed
  simp only [Cond.before, Cond.holds, Cond.value, hc, hf, hn, hkP]
  simp [hkPi]
theorem own_super {p : Program} {l : Launch} {e : Env} {R : Room} {s : State} {m : MethodId} {args : Array Value} {below : List Frame} {meth : Method} {c : Code} {T : State} {locs : List Loc} {cells slots : Nat} {Z : State} {a0 : Array Value} {h : Heap}
    {own : String} {index : Nat} {y z : MethodName} {bytes : ByteArray} {maxL : Nat} {ret : Option FieldType} {rm : Room} {W : Nat} {as' : Array Value} {Q : Option Value → Heap → List Loc → Prop}
    (X : Stand p l e R s m args below meth c T locs cells slots) (hx : p.tables.exec = Jvm.exec) (hZ : Z.Warmed39 s.vm) {C K : String} (hown : s.vm.findClass own = some m.cls) (hlink : (Cond.methodLink own index y).before a0 Z = true) (hyz : z.cls = y.cls) (hsw : (Cond.selects C z z).before a0 Z = true) (hinst : (Cond.instanceMethod y).before a0 Z = true) (hsup : (Cond.superclass own y.cls).before a0 Z = true)
    (hcode : (Cond.code y bytes maxL ret).before a0 Z = true) (hinit : (Cond.initialized y.cls).before a0 Z = true) (hy : y.cls ≠ "java/lang/invoke/MethodHandle" ∧ y.cls ≠ "java/lang/invoke/VarHandle") (hn : y.name ≠ "<init>")
    (hM : own_Met l y bytes maxL ret [] rm as' Z h Q)
    (hf : rm.frames + 1 ≤ R.frames) (hl : W + (maxL + 11) + rm.locals ≤ R.locals) {a : Addr} (E : Ins Z h a K true) {g : JFrame} (hg : g.method = m) (hsize : g.locals.size = c.maxLocals) {argsL rest : List Value} (hlen : ∀ sig, parseMethodDescriptor y.desc = some sig → argsL.length = sig.parameters.length)
    (hstack : g.stack = argsL.reverse ++ .ref a :: rest) (hdg : decode c.code g.pc = .ok (.invokespecial index, 3)) (has : (.ref a :: argsL).toArray = as') (eT : T.heap = h) (hc : cells + rm.cells ≤ R.cells) (hs : slots + rm.slots ≤ R.slots) (hW : 2 * g.monitorRoom + (rest.map fun v => v.category).sum ≤ W := by show 2 * 0 + _ ≤ _; exact Nat.le_of_eq rfl) :
    ∃ (v : Option Value) (T' : State) (L : List Loc), Stand p l e R s m args below meth c T' (locs ++ L) (cells + rm.cells) (slots + rm.slots) ∧ Q v T'.heap L ∧ ∀ target, Steps p.tables e below (T'.setTop { g with pc := g.pc + 3, stack := v.toList ++ rest }) target → Steps p.tables e below (T.setTop g) target := by
  obtain ⟨v, _, ⟨T3, L3, k3, n3⟩, -, X3, ⟨Lc3, hQ3, l3, y3, z3⟩, st3⟩ := superBack X hx hZ (a0 := a0) (K := K) hown hlink (own_same hyz hsw hinst hy) hinst hsup hn (backOf (W := W) hM hZ hcode hinit hf hl) eT E hg hsize hcode hlen hstack hW hdg (fun _ _ => ⟨has, eT, hc, hs⟩)
  dsimp only [Pt.U, Pt.locs, Pt.cells, Pt.slots] at X3 l3 y3 z3 st3 hQ3
  subst l3 y3 z3
  exact ⟨v, T3, Lc3, X3, hQ3, fun target k => st3.trans k⟩
def own_n (i : Nat) : Int32 := Int32.ofNat i
theorem own_nI {i : Nat} (h : i < 2147483648) : (own_n i).toInt = i := by
  unfold own_n
  rw [Int32.toInt_ofNat_of_lt (by omega)]
theorem own_nc {i : Nat} (h : i < 2147483648) : (own_n i).toNatClampNeg = i := by
  have := own_nI h
  simp [Int32.toNatClampNeg, this]
theorem own_ninj {i j : Nat} (hi : i < 2147483648) (hj : j < 2147483648) (h : own_n i = own_n j) : i = j := by
  have := congrArg Int32.toInt h
  rw [own_nI hi, own_nI hj] at this; omega
theorem own_nne {i j : Nat} (hi : i < 2147483648) (hj : j < 2147483648) (h : ¬ i = j) : ¬ own_n i = own_n j := fun q => h (own_ninj hi hj q)
theorem own_nlt {i j : Nat} (hi : i < j) (hj : j < 2147483648) : ¬ own_n i < 0 ∧ own_n i < own_n j := by
  simp only [Int32.lt_iff_toInt_lt, own_nI hj, own_nI (Nat.lt_trans hi hj), show (0 : Int32).toInt = 0 from rfl]; omega
theorem own_nm {i : Nat} (h : i < 2147483648) : ¬ own_n i = (-1 : Int32) := fun q => by
  have := congrArg Int32.toInt q
  rw [own_nI h, show (-1 : Int32).toInt = -1 from rfl] at this; omega
theorem own_nge {i : Nat} (h : i < 2147483648) : ¬ own_n i < 0 := by
  simp only [Int32.lt_iff_toInt_lt, own_nI h, show (0 : Int32).toInt = 0 from rfl]; omega
theorem own_nadd {i : Nat} (h : i + 1 < 2147483648) : own_n i + 1 = own_n (i + 1) := by
  rw [← Int32.toInt_inj, own_nI h]
  have h1 := c_iadd (own_n i) 1
  rw [own_nI (by omega), show (1 : Int32).toInt = 1 from rfl] at h1
  have h2 := rng32 (own_n i + 1)
  omega
def own_vl (n : Nat) (g : Nat → Int32) : List Value := (List.range n).map fun i => Value.int (g i)
theorem own_vlen (n : Nat) (g : Nat → Int32) : (own_vl n g).length = n := by simp [own_vl]
theorem own_vget {n : Nat} {g : Nat → Int32} {k : Nat} {d : Value} (hk : k < n) : (own_vl n g).getD k d = .int (g k) := by
  simp [own_vl, List.getD_eq_getElem?_getD, hk]
def own_up (g : Nat → Int32) (k : Nat) (y : Int32) (i : Nat) : Int32 := if i = k then y else g i
theorem own_vset (n : Nat) (g : Nat → Int32) (k : Nat) (y : Int32) : (own_vl n g).set k (.int y) = own_vl n (own_up g k y) := by
  apply List.ext_getElem
  · simp [own_vl]
  · intro i h1 h2
    simp only [own_vl, List.getElem_set, List.getElem_map, List.getElem_range, own_up]
    by_cases q : k = i
    · rw [if_pos q, if_pos q.symm]
    · rw [if_neg q, if_neg (fun z => q z.symm)]
def own_Ar (Z : State) (h : Heap) (a : Addr) (n : Nat) (g : Nat → Int32) : Prop := ∃ k, Arv Z h a k .int (own_n n) (own_vl n g) (.int (0 : Int32))
section OwnAr
variable {Z : State} {h h' : Heap} {a b : Addr} {n : Nat} {g : Nat → Int32}
theorem own_Ar.lt (F : own_Ar Z h a n g) : a < h.size := by obtain ⟨k, A⟩ := F; exact A.lt
theorem own_Ar.ext (F : own_Ar Z h a n g) (E : Ext h h') : own_Ar Z h' a n g := by obtain ⟨k, A⟩ := F; exact ⟨k, A.ext E⟩
theorem own_Ar.other {sl : Nat} {v : Value} (F : own_Ar Z h b n g) (W : Wr h h' a sl v) (q : b ≠ a) : own_Ar Z h' b n g := by obtain ⟨k, A⟩ := F; exact ⟨k, A.other W q⟩
theorem own_Ar.keep {ws : List Addr} (F : own_Ar Z h a n g) (K : Keep h h' ws) (q : a ∉ ws) : own_Ar Z h' a n g := by obtain ⟨k, A⟩ := F; exact ⟨k, A.keep K q⟩
theorem own_Ar.ns (F : own_Ar Z h a n g) : ∀ c : Cell, h[a]? = some c → c.vm.isStatics = false := by obtain ⟨k, A⟩ := F; exact own_arns A
theorem own_Ar.eqv {g' : Nat → Int32} (F : own_Ar Z h a n g) (e : ∀ i, i < n → g i = g' i) : own_Ar Z h a n g' := by
  have q : own_vl n g = own_vl n g' := List.map_congr_left fun i hi => by rw [e i (List.mem_range.mp hi)]
  obtain ⟨k, A⟩ := F; rw [q] at A; exact ⟨k, A⟩
theorem own_new0 {k : ClassId} (n : Nat) (hn : n < 2147483648) (A : Arr Z h a (newA k .int (own_n n)) .int) : own_Ar Z h a n (fun _ => 0) := by
  refine ⟨k, (Arv.new A (own_nge hn)).pad (fun i => ?_)⟩
  by_cases q : i < n
  · rw [own_vget q]; rfl
  · rw [List.getD_eq_getElem?_getD, List.getElem?_eq_none (by rw [own_vlen]; omega)]; rfl
theorem own_inb {cl : Cell} {n k : Nat} (S : cl.slots.size = (own_n n).toNatClampNeg) (hn : n < 2147483648) (hk : k < n) : ¬ (own_n k < 0 ∨ cl.slots.size ≤ (own_n k).toNatClampNeg) := inb_of S (own_nlt hk hn)
theorem own_at {cl : Cell} {n k : Nat} {g : Nat → Int32} {d : Value} {v : Int32} (H : Has cl (own_vl n g) d) (S : cl.slots.size = (own_n n).toNatClampNeg) (hn : n < 2147483648) (hk : k < n) (ev : g k = v) : cl.slots[(own_n k).toNatClampNeg]? = some (.int v) := by
  rw [own_nc (by omega), H k (by rw [S, own_nc hn]; exact hk), own_vget hk, ev]
theorem own_arset {cl : Cell} {ck : ClassId} {n k : Nat} {y : Int32} (A : Arr Z h a cl .int) (q1 : cl.cls = ck) (S : cl.slots.size = (own_n n).toNatClampNeg) (q3 : ¬ own_n n < 0) (H : Has cl (own_vl n g) (.int (0 : Int32))) (G : ∀ i, i < cl.slots.size → fits .int ((own_vl n g).getD i (.int (0 : Int32))) = true) (W : Wr h h' a (own_n k).toNatClampNeg (.int y)) (hn : n < 2147483648) (hk : k < n) : own_Ar Z h' a n (own_up g k y) := by
  have q := Arv.set A q1 S q3 H G rfl W k (own_nc (by omega)) (by rw [own_vlen]; exact hk)
  rw [own_vset] at q; exact ⟨ck, q⟩
end OwnAr
theorem own_nd {L : List Addr} (h : L.Nodup) (i j : Nat) (hij : i < j) {x y : Addr} (hx : L[i]? = some x) (hy : L[j]? = some y) : x ≠ y := by
  obtain ⟨h1, rfl⟩ := List.getElem?_eq_some_iff.mp hx
  obtain ⟨h2, rfl⟩ := List.getElem?_eq_some_iff.mp hy
  exact List.pairwise_iff_getElem.mp h i j h1 h2 hij
def own_Ab (Z : State) (h : Heap) (a : Addr) (n : Nat) (g : Nat → Int32) : Prop := ∃ k, Arv Z h a k .byte (own_n n) (own_vl n g) (.int (0 : Int32))
section OwnAb
variable {Z : State} {h h' : Heap} {a b : Addr} {n : Nat} {g : Nat → Int32}
theorem own_Ab.lt (F : own_Ab Z h a n g) : a < h.size := by obtain ⟨k, A⟩ := F; exact A.lt
theorem own_Ab.ext (F : own_Ab Z h a n g) (E : Ext h h') : own_Ab Z h' a n g := by obtain ⟨k, A⟩ := F; exact ⟨k, A.ext E⟩
theorem own_Ab.other {sl : Nat} {v : Value} (F : own_Ab Z h b n g) (W : Wr h h' a sl v) (q : b ≠ a) : own_Ab Z h' b n g := by obtain ⟨k, A⟩ := F; exact ⟨k, A.other W q⟩
theorem own_Ab.keep {ws : List Addr} (F : own_Ab Z h a n g) (K : Keep h h' ws) (q : a ∉ ws) : own_Ab Z h' a n g := by obtain ⟨k, A⟩ := F; exact ⟨k, A.keep K q⟩
theorem own_Ab.ns (F : own_Ab Z h a n g) : ∀ c : Cell, h[a]? = some c → c.vm.isStatics = false := by obtain ⟨k, A⟩ := F; exact own_arns A
theorem own_Ab.eqv {g' : Nat → Int32} (F : own_Ab Z h a n g) (e : ∀ i, i < n → g i = g' i) : own_Ab Z h a n g' := by
  have q : own_vl n g = own_vl n g' := List.map_congr_left fun i hi => by rw [e i (List.mem_range.mp hi)]
  obtain ⟨k, A⟩ := F; rw [q] at A; exact ⟨k, A⟩
theorem own_newB {k : ClassId} (n : Nat) (hn : n < 2147483648) (A : Arr Z h a (newA k .byte (own_n n)) .byte) : own_Ab Z h a n (fun _ => 0) := by
  refine ⟨k, (Arv.new A (own_nge hn)).pad (fun i => ?_)⟩
  by_cases q : i < n
  · rw [own_vget q]; rfl
  · rw [List.getD_eq_getElem?_getD, List.getElem?_eq_none (by rw [own_vlen]; omega)]; rfl
theorem own_arsetB {cl : Cell} {ck : ClassId} {n k : Nat} {y : Int32} (A : Arr Z h a cl .byte) (q1 : cl.cls = ck) (S : cl.slots.size = (own_n n).toNatClampNeg) (q3 : ¬ own_n n < 0) (H : Has cl (own_vl n g) (.int (0 : Int32))) (G : ∀ i, i < cl.slots.size → fits .byte ((own_vl n g).getD i (.int (0 : Int32))) = true) (W : Wr h h' a (own_n k).toNatClampNeg (.int y)) (hy : fits .byte (.int y) = true) (hn : n < 2147483648) (hk : k < n) : own_Ab Z h' a n (own_up g k y) := by
  have q := Arv.set A q1 S q3 H G hy W k (own_nc (by omega)) (by rw [own_vlen]; exact hk)
  rw [own_vset] at q; exact ⟨ck, q⟩
theorem own_Ab.fit (F : own_Ab Z h a n g) (hn : n < 2147483648) {i : Nat} (hi : i < n) : fits .byte (.int (g i)) = true := by
  obtain ⟨k, c, A, -, S, -, H, G⟩ := F
  have := G i (by rw [S, own_nc hn]; exact hi)
  rw [own_vget hi] at this; exact this
def own_cp (gs gd : Nat → Int32) (sp dp m i : Nat) : Int32 := if dp ≤ i ∧ i < dp + m then gs (sp + (i - dp)) else gd i
theorem own_vq (n : Nat) (g : Nat → Int32) (i : Nat) : (own_vl n g)[i]? = if i < n then some (.int (g i)) else none := by
  unfold own_vl
  by_cases q : i < n
  · rw [if_pos q]; simp [q]
  · rw [if_neg q]; simp; omega
theorem own_cpl {n n' sp dp m : Nat} {gs gd : Nat → Int32} (h1 : sp + m ≤ n) (h2 : dp + m ≤ n') : (own_vl n' gd).take dp ++ ((List.range m).map fun i => (own_vl n gs).getD (sp + i) (.int (0 : Int32))) ++ (own_vl n' gd).drop (dp + m) = own_vl n' (own_cp gs gd sp dp m) := by
  apply List.ext_getElem?
  intro i
  have lt : ((own_vl n' gd).take dp).length = dp := by rw [List.length_take, own_vlen]; omega
  have lm : ((List.range m).map fun i => (own_vl n gs).getD (sp + i) (.int (0 : Int32))).length = m := by simp
  rw [own_vq]
  unfold own_cp
  by_cases c1 : i < dp
  · rw [List.append_assoc, List.getElem?_append_left (by omega), List.getElem?_take_of_lt c1, own_vq, if_pos (show i < n' by omega), if_pos (show i < n' by omega), if_neg (show ¬ (dp ≤ i ∧ i < dp + m) by omega)]
  · by_cases c2 : i < dp + m
    · rw [List.getElem?_append_left (by rw [List.length_append]; omega), List.getElem?_append_right (by omega), lt, if_pos (show i < n' by omega), if_pos (show dp ≤ i ∧ i < dp + m from ⟨by omega, c2⟩), List.getElem?_map, List.getElem?_range (by omega)]
      show some ((own_vl n gs).getD (sp + (i - dp)) (.int (0 : Int32))) = some _
      rw [own_vget (by omega)]
    · rw [List.getElem?_append_right (by rw [List.length_append, lt, lm]; omega), List.getElem?_drop, List.length_append, lt, lm, own_vq, show dp + m + (i - (dp + m)) = i by omega, if_neg (show ¬ (dp ≤ i ∧ i < dp + m) by omega)]
end OwnAb
def own_Str (Z : State) (h : Heap) (a b : Addr) (n : Nat) (g : Nat → Int32) : Prop := Exa Z h a "java/lang/String" ∧ Fld Z h a "java/lang/String" "coder" "B" (.int (0 : Int32)) ∧ Fld Z h a "java/lang/String" "value" "[B" (.ref b) ∧ own_Ab Z h b n g
section OwnStr
variable {Z : State} {h h' : Heap} {a b : Addr} {n : Nat} {g : Nat → Int32}
theorem own_Str.mk (z0 : Exa Z h a "java/lang/String") (z1 : Fld Z h a "java/lang/String" "coder" "B" (.int (0 : Int32))) (z2 : Fld Z h a "java/lang/String" "value" "[B" (.ref b)) (z3 : own_Ab Z h b n g) : own_Str Z h a b n g := ⟨z0, z1, z2, z3⟩
theorem own_Str.E (D : own_Str Z h a b n g) : Exa Z h a "java/lang/String" := D.1
theorem own_Str.C (D : own_Str Z h a b n g) : Fld Z h a "java/lang/String" "coder" "B" (.int (0 : Int32)) := D.2.1
theorem own_Str.V (D : own_Str Z h a b n g) : Fld Z h a "java/lang/String" "value" "[B" (.ref b) := D.2.2.1
theorem own_Str.A (D : own_Str Z h a b n g) : own_Ab Z h b n g := D.2.2.2
theorem own_Str.ext (D : own_Str Z h a b n g) (E : Ext h h') : own_Str Z h' a b n g := ⟨D.E.ext E, D.C.ext E, D.V.ext E, D.A.ext E⟩
theorem own_Str.keep {ws : List Addr} (D : own_Str Z h a b n g) (K : Keep h h' ws) (q : ∀ y ∈ [a, b], y ∉ ws) : own_Str Z h' a b n g := ⟨D.E.keep K, D.C.keep K (q _ (List.mem_of_getElem? (i := 0) rfl)), D.V.keep K (q _ (List.mem_of_getElem? (i := 0) rfl)), D.A.keep K (q _ (List.mem_of_getElem? (i := 1) rfl))⟩
theorem own_Str.lt (D : own_Str Z h a b n g) : ∀ y ∈ [a, b], y < h.size := allS D.E.lt (allS D.A.lt all0)
end OwnStr
def own_Bd (Z : State) (h : Heap) (a b : Addr) (cap n : Nat) (g : Nat → Int32) : Prop := Exa Z h a "java/lang/StringBuilder" ∧ Fld Z h a "java/lang/AbstractStringBuilder" "coder" "B" (.int (0 : Int32)) ∧ Fld Z h a "java/lang/AbstractStringBuilder" "value" "[B" (.ref b) ∧ Fld Z h a "java/lang/AbstractStringBuilder" "count" "I" (.int (own_n n)) ∧ own_Ab Z h b cap g
section OwnBd
variable {Z : State} {h h' : Heap} {a b : Addr} {cap n : Nat} {g : Nat → Int32}
theorem own_Bd.mk (z0 : Exa Z h a "java/lang/StringBuilder") (z1 : Fld Z h a "java/lang/AbstractStringBuilder" "coder" "B" (.int (0 : Int32))) (z2 : Fld Z h a "java/lang/AbstractStringBuilder" "value" "[B" (.ref b)) (z3 : Fld Z h a "java/lang/AbstractStringBuilder" "count" "I" (.int (own_n n))) (z4 : own_Ab Z h b cap g) : own_Bd Z h a b cap n g := ⟨z0, z1, z2, z3, z4⟩
theorem own_Bd.E (D : own_Bd Z h a b cap n g) : Exa Z h a "java/lang/StringBuilder" := D.1
theorem own_Bd.C (D : own_Bd Z h a b cap n g) : Fld Z h a "java/lang/AbstractStringBuilder" "coder" "B" (.int (0 : Int32)) := D.2.1
theorem own_Bd.V (D : own_Bd Z h a b cap n g) : Fld Z h a "java/lang/AbstractStringBuilder" "value" "[B" (.ref b) := D.2.2.1
theorem own_Bd.N (D : own_Bd Z h a b cap n g) : Fld Z h a "java/lang/AbstractStringBuilder" "count" "I" (.int (own_n n)) := D.2.2.2.1
theorem own_Bd.A (D : own_Bd Z h a b cap n g) : own_Ab Z h b cap g := D.2.2.2.2
theorem own_Bd.ext (D : own_Bd Z h a b cap n g) (E : Ext h h') : own_Bd Z h' a b cap n g := ⟨D.E.ext E, D.C.ext E, D.V.ext E, D.N.ext E, D.A.ext E⟩
theorem own_Bd.keep {ws : List Addr} (D : own_Bd Z h a b cap n g) (K : Keep h h' ws) (q : ∀ y ∈ [a, b], y ∉ ws) : own_Bd Z h' a b cap n g := ⟨D.E.keep K, D.C.keep K (q _ (List.mem_of_getElem? (i := 0) rfl)), D.V.keep K (q _ (List.mem_of_getElem? (i := 0) rfl)), D.N.keep K (q _ (List.mem_of_getElem? (i := 0) rfl)), D.A.keep K (q _ (List.mem_of_getElem? (i := 1) rfl))⟩
end OwnBd
theorem own_sh0 {k : Nat} (h : k < 1000) : own_n k >>> ((0 : Int32) &&& 31) = own_n k := by
  rw [← Int32.toInt_inj, c_ishr _ 0 0 (by decide)]; simp
theorem own_shl0 {k : Nat} : own_n k <<< ((0 : Int32) &&& 31) = own_n k := by
  have q := c_ishl (own_n k) 0 0 (by decide)
  have r1 := rng32 (own_n k <<< ((0 : Int32) &&& 31))
  have r2 := rng32 (own_n k)
  rw [show ((2 : Nat) ^ 0 : Nat) = 1 from rfl] at q
  rw [← Int32.toInt_inj]; omega
theorem own_nplus (x y : Nat) : own_n x + own_n y = own_n (x + y) := by unfold own_n; exact (Int32.ofNat_add x y).symm
theorem own_nsubI {x y : Nat} (hx : x < 2147483648) (hy : y < 2147483648) : (own_n x - own_n y).toInt = (x : Int) - y := by
  have h := c_isub (own_n x) (own_n y)
  rw [own_nI hx, own_nI hy] at h
  have r := rng32 (own_n x - own_n y)
  omega
theorem own_nsubN {x y : Nat} (hx : x < 2147483648) (hy : y ≤ x) : own_n x - own_n y = own_n (x - y) := by
  rw [← Int32.toInt_inj, own_nsubI hx (by omega), own_nI (by omega)]; omega
def own_mx (y0 y1 : Int32) : Int32 := if y0 < y1 then y1 else y0
def own_mi (y0 y1 : Int32) : Int32 := if y1 < y0 then y1 else y0
theorem own_mxN {x y : Nat} (hx : x < 2147483648) (hy : y < 2147483648) : own_mx (own_n x) (own_n y) = own_n (max x y) := by
  unfold own_mx
  by_cases q : own_n x < own_n y
  · rw [if_pos q]
    rw [Int32.lt_iff_toInt_lt, own_nI hx, own_nI hy] at q
    rw [show max x y = y by omega]
  · rw [if_neg q]
    rw [Int32.lt_iff_toInt_lt, own_nI hx, own_nI hy] at q
    rw [show max x y = x by omega]
theorem own_miN {x y : Nat} (hx : x < 2147483648) (hy : y < 2147483648) : own_mi (own_n x) (own_n y) = own_n (min x y) := by
  unfold own_mi
  by_cases q : own_n y < own_n x
  · rw [if_pos q]
    rw [Int32.lt_iff_toInt_lt, own_nI hx, own_nI hy] at q
    rw [show min x y = y by omega]
  · rw [if_neg q]
    rw [Int32.lt_iff_toInt_lt, own_nI hx, own_nI hy] at q
    rw [show min x y = x by omega]
theorem own_nplus2 (x : Nat) : own_n x + (2 : Int32) = own_n (x + 2) := own_nplus x 2
def own_gr (cap need : Nat) : Nat := if need ≤ cap then cap else max need (2 * cap + 2)
theorem own_cmpN {x y : Nat} (hx : x < 2147483648) (hy : y < 2147483648) : own_n x < own_n y ↔ x < y := by rw [Int32.lt_iff_toInt_lt, own_nI hx, own_nI hy]; omega
theorem D_rmCoder : oL jdk_42_method_152_code [(0, .getstatic 38, 3), (3, .ifCond .eq 10, 3), (6, .aload_n 0, 1), (7, .getfield 15, 3), (10, .goto 4, 3), (14, .ireturn, 1)] := by decide +kernel
theorem pn_String : plainName "java/lang/String" = true := by first | (simp [plainName, overriddenIn]; done) | decide +kernel
def QrmCoder (Z : State) (a0 : Addr) (wC : Int32) (h0 : Heap) (n0 : Nat) (v : Option Value) (h : Heap) (L : List Loc) : Prop := v = some (.int (0 : Int32)) ∧ Fr n0 L ∧ h = h0
theorem rmCoder (l : Launch) (Z : State) (av0 : Array Value) (hw : ∀ d ∈ tables_1, d.before av0 Z = true) (ws : List Jvm.Cond) (a0 : Addr) (wC : Int32) (h0 : Heap) (n0 : Nat) (Z0 : n0 ≤ h0.size) (hFc : Fld Z h0 a0 "java/lang/String" "coder" "B" (.int (0 : Int32))) (hSC : Sta Z h0 "java/lang/String" "COMPACT_STRINGS" "Z" (.int wC)) (hwC : ¬ wC = (0 : Int32)) :
   own_Met l mN0 jdk_42_method_152_code 1 (some .byte) ws ({ frames := 0, cells := 0, slots := 0, locals := 0 } : Room) #[(.ref a0)] Z h0 (QrmCoder Z a0 wC h0 n0) := by
 refine MetFree.of_bodySF (plainFor_of_name pn_String) hisR ?_
 intro p e s m args below meth c s₁ Bd hml0 hP hK
 obtain ⟨rfl, hZ, hh⟩ := hP
 have hml : c.maxLocals = 1 := hml0
 obtain ⟨hx, hby, hown, hnm, X0, e0⟩ := own_start Bd hml0 hh
 have N0 := Fr.nil n0
 have Y := @oY _ _ _ hby D_rmCoder
 obtain ⟨P0, in0, pre0⟩ : ∃ P : State → Prop, (∀ tz, oS p e below s₁ (mkF m 0 #[rv a0] []) tz → P tz) ∧ ∀ tz, P tz → Steps p.tables e below (s₁.setTop (entryFrame m #[(.ref a0)] 1)) tz := ⟨_, fun _ kz => kz, fun tz kz => castTop (by first | (simp [entryFrame, mkF, argsToLocals, Value.category]; done) | rfl) kz⟩
 obtain ⟨T1, X1, e1, st1⟩ := getS2 X0 hx hZ hown (host := "") (Or.inl (oq hw 87 rfl)) Via.refl e0 hSC (g := (mkF m 0 #[rv a0] [])) rfl (Y 0 rfl)
 obtain ⟨T2, X2, e2, st2⟩ := getF X1 hx hZ hown (host := "") (Or.inl (oq hw 88 rfl)) Via.refl e1 hFc (g := (mkF m 7 #[rv a0] [(.ref a0)])) rfl rfl (Y 3 rfl)
 have S3 : ∀ tz, oS p e below T2 (mkF m 14 #[rv a0] [(.int 0)]) tz → P0 tz := fun tz kz => in0 tz (by
  refine st1 _ ?_
  refine XS.ifNo X1.here hx rfl (Y 1 rfl) rfl (XT.i0_eq_f hwC) ?_
  refine XS.aloadN X1.here hx rfl (Y 2 rfl) rfl rfl ?_
  refine st2 _ ?_
  refine XS.goto X2.here hx rfl (pc0 := 10) (pc' := 14) rfl (Y 4 rfl) (by decide) (by decide) ?_
  exact kz)
 obtain ⟨fs, hr, hrun, hended, hW, hsame⟩ := X2.leave (v := some (.int (nar .byte (0 : Int32)))) (fun h => by rw [Bd.returns] at h; cases h)
 refine ⟨_, _, pre0 _ (S3 _ ?_), hrun, hended, _, _, rfl, ?_, ⟨_, rfl⟩, hW, hsame.mono (by decide) (by decide)⟩
 · exact retN X2 hx (t := .byte) Bd.returns (by simp) (Y 5 rfl) hr
 · show QrmCoder Z a0 wC h0 n0 _ T2.heap _
   rw [e2]
   exact ⟨rfl, N0, rfl⟩
theorem D_rmLen : oL jdk_42_method_54_code [(0, .aload_n 0, 1), (1, .getfield 9, 3), (4, .arraylength, 1), (5, .aload_n 0, 1), (6, .invokevirtual 335, 3), (9, .ishr, 1), (10, .ireturn, 1)] := by decide +kernel
theorem pd__B : parseMethodDescriptor "()B" = some ⟨[], some .byte⟩ := by decide +kernel
def QrmLen (Z : State) (a0 : Addr) (b0 : Addr) (n : Nat) (g : Nat → Int32) (wC : Int32) (h0 : Heap) (n0 : Nat) (v : Option Value) (h : Heap) (L : List Loc) : Prop := v = some (.int (own_n n)) ∧ Fr n0 L ∧ h = h0
theorem rmLen (l : Launch) (Z : State) (av0 : Array Value) (hw : ∀ d ∈ tables_1, d.before av0 Z = true) (ws : List Jvm.Cond) (a0 : Addr) (b0 : Addr) (n : Nat) (g : Nat → Int32) (wC : Int32) (h0 : Heap) (n0 : Nat) (Z0 : n0 ≤ h0.size) (hD : own_Str Z h0 a0 b0 n g) (hn : n < 1000) (hSC : Sta Z h0 "java/lang/String" "COMPACT_STRINGS" "Z" (.int wC)) (hwC : ¬ wC = (0 : Int32)) :
   own_Met l mN1 jdk_42_method_54_code 1 (some .int) ws ({ frames := 1, cells := 0, slots := 0, locals := 13 } : Room) #[(.ref a0)] Z h0 (QrmLen Z a0 b0 n g wC h0 n0) := by
 refine MetFree.of_bodySF (plainFor_of_name pn_String) hisR ?_
 intro p e s m args below meth c s₁ Bd hml0 hP hK
 obtain ⟨rfl, hZ, hh⟩ := hP
 have hml : c.maxLocals = 1 := hml0
 obtain ⟨hx, hby, hown, hnm, X0, e0⟩ := own_start Bd hml0 hh
 have N0 := Fr.nil n0
 have Y := @oY _ _ _ hby D_rmLen
 obtain ⟨P0, in0, pre0⟩ : ∃ P : State → Prop, (∀ tz, oS p e below s₁ (mkF m 0 #[rv a0] []) tz → P tz) ∧ ∀ tz, P tz → Steps p.tables e below (s₁.setTop (entryFrame m #[(.ref a0)] 1)) tz := ⟨_, fun _ kz => kz, fun tz kz => castTop (by first | (simp [entryFrame, mkF, argsToLocals, Value.category]; done) | rfl) kz⟩
 obtain ⟨T1, X1, e1, st1⟩ := getF X0 hx hZ hown (host := "") (Or.inl (oq hw 81 rfl)) Via.refl e0 hD.V (g := (mkF m 1 #[rv a0] [(.ref a0)])) rfl rfl (Y 1 rfl)
 obtain ⟨kc2, cl2, Ar2, qk2, Sz2, Ng2, Hs2, Gs2⟩ := id hD.A
 obtain ⟨_, T3, Lc3, X3, hQ3, st3⟩ := own_virtual (W := 1) (y := mN0) (z := mN0) X1 hx hZ hown (oq hw 82 rfl) (oq hw 83 rfl) (notFace_of_selects (args := #[]) (mvT hZ (oq hw 85 rfl))) (oq hw 85 rfl) (oq hw 84 rfl) (oq hw 86 rfl) (oq hw 1 rfl) (by decide) (rmCoder l Z av0 hw [] a0 wC h0 n0 Z0 hD.C hSC hwC) (by decide) (by decide) hD.E (g := (mkF m 6 #[rv a0] [(.ref a0), (.int (own_n n))])) rfl (by rw [hml]; rfl) (argsL := []) (rest := [(.int (own_n n))]) (lenOf pd__B rfl) rfl (Y 4 rfl) rfl e1 (by decide : 0 + 0 ≤ _) (by decide : 0 + 0 ≤ _)
 obtain ⟨rfl, N3q, hh3⟩ := hQ3
 have N3 := Fr.app N0 N3q
 have e3 : T3.heap = h0 := hh3
 have S4 : ∀ tz, oS p e below T3 (mkF m 10 #[rv a0] [(.int (own_n n))]) tz → P0 tz := fun tz kz => in0 tz (by
  refine XS.aloadN X0.here hx rfl (Y 0 rfl) rfl rfl ?_
  refine st1 _ ?_
  refine X1.arraylength hx (by rw [e1]; exact Ar2.1) (State.isArrayOf_alike hZ.alike Ar2.2.1) (g := (mkF m 4 #[rv a0] [(.ref b0)])) rfl rfl (Y 2 rfl) _ ?_
  rw [len_of Sz2 Ng2]
  refine XS.aloadN X1.here hx rfl (Y 3 rfl) rfl rfl ?_
  refine st3 _ ?_
  refine XT.ishr X3.here hx rfl (Y 5 rfl) rfl ?_
  show oS p e below T3 (mkF m 10 #[rv a0] [(.int ((own_n n) >>> ((0 : Int32) &&& 31)))]) _
  rw [own_sh0 hn]
  show oS p e below T3 (mkF m 10 #[rv a0] [(.int (own_n n))]) _
  exact kz)
 obtain ⟨fs, hr, hrun, hended, hW, hsame⟩ := X3.leave (v := some (.int (own_n n))) (fun h => by rw [Bd.returns] at h; cases h)
 refine ⟨_, _, pre0 _ (S4 _ ?_), hrun, hended, _, _, rfl, ?_, ⟨_, rfl⟩, hW, hsame.mono (by decide) (by decide)⟩
 · exact retI X3 hx Bd.returns (Y 6 rfl) hr
 · show QrmLen Z a0 b0 n g wC h0 n0 _ T3.heap _
   rw [e3]
   exact ⟨rfl, N3, rfl⟩
theorem D_rmMax : oL jdk_29_method_65_code [(0, .iload_n 0, 1), (1, .iload_n 1, 1), (2, .if_icmp .lt 7, 3), (9, .iload_n 1, 1), (10, .ireturn, 1), (5, .iload_n 0, 1), (6, .goto 4, 3)] := by decide +kernel
def QrmMax (Z : State) (y0 : Int32) (y1 : Int32) (h0 : Heap) (n0 : Nat) (v : Option Value) (h : Heap) (L : List Loc) : Prop := v = some (.int (own_mx y0 y1)) ∧ Fr n0 L ∧ h = h0
theorem rmMax (l : Launch) (Z : State) (av0 : Array Value) (hw : ∀ d ∈ tables_1, d.before av0 Z = true) (ws : List Jvm.Cond) (y0 : Int32) (y1 : Int32) (h0 : Heap) (n0 : Nat) (Z0 : n0 ≤ h0.size)  :
   own_Met l mN2 jdk_29_method_65_code 2 (some .int) ws ({ frames := 0, cells := 0, slots := 0, locals := 0 } : Room) #[(.int y0), (.int y1)] Z h0 (QrmMax Z y0 y1 h0 n0) := by
 refine MetFree.of_bodySF (Jvm.Free.JP.mathPlain rfl (by decide +kernel)) hisR ?_
 intro p e s m args below meth c s₁ Bd hml0 hP hK
 obtain ⟨rfl, hZ, hh⟩ := hP
 have hml : c.maxLocals = 2 := hml0
 obtain ⟨hx, hby, hown, hnm, X0, e0⟩ := own_start Bd hml0 hh
 have N0 := Fr.nil n0
 have Y := @oY _ _ _ hby D_rmMax
 obtain ⟨P0, in0, pre0⟩ : ∃ P : State → Prop, (∀ tz, oS p e below s₁ (mkF m 0 #[iv y0, iv y1] []) tz → P tz) ∧ ∀ tz, P tz → Steps p.tables e below (s₁.setTop (entryFrame m #[(.int y0), (.int y1)] 2)) tz := ⟨_, fun _ kz => kz, fun tz kz => castTop (by first | (simp [entryFrame, mkF, argsToLocals, Value.category]; done) | rfl) kz⟩
 have S1 : ∀ tz, oS p e below s₁ (mkF m 2 #[iv y0, iv y1] [(.int y1), (.int y0)]) tz → P0 tz := fun tz kz => in0 tz (by
  refine XS.iloadN X0.here hx rfl (Y 0 rfl) rfl ?_
  refine XS.iloadN X0.here hx rfl (Y 1 rfl) rfl ?_
  exact kz)
 by_cases hc2_2 : y0 < y1
 ·have S3 : ∀ tz, oS p e below s₁ (mkF m 10 #[iv y0, iv y1] [(.int y1)]) tz → P0 tz := fun tz kz => S1 tz (by
   refine XS.icmpYes X0.here hx rfl (pc0 := 2) (pc' := 9) rfl (Y 2 rfl) rfl (XT.ii_lt_t hc2_2) (by decide) (by decide) ?_
   refine XS.iloadN X0.here hx rfl (Y 3 rfl) rfl ?_
   exact kz)
  obtain ⟨fs, hr, hrun, hended, hW, hsame⟩ := X0.leave (v := some (.int y1)) (fun h => by rw [Bd.returns] at h; cases h)
  refine ⟨_, _, pre0 _ (S3 _ ?_), hrun, hended, _, _, rfl, ?_, ⟨_, rfl⟩, hW, hsame.mono (by decide) (by decide)⟩
  · exact retI X0 hx Bd.returns (Y 4 rfl) hr
  · show QrmMax Z y0 y1 h0 n0 _ s₁.heap _
    rw [e0]
    exact ⟨congrArg (fun z => some (Value.int z)) (if_pos hc2_2).symm, N0, rfl⟩
 ·have S4 : ∀ tz, oS p e below s₁ (mkF m 10 #[iv y0, iv y1] [(.int y0)]) tz → P0 tz := fun tz kz => S1 tz (by
   refine XS.icmpNo X0.here hx rfl (Y 2 rfl) rfl (XT.ii_lt_f hc2_2) ?_
   refine XS.iloadN X0.here hx rfl (Y 5 rfl) rfl ?_
   refine XS.goto X0.here hx rfl (pc0 := 6) (pc' := 10) rfl (Y 6 rfl) (by decide) (by decide) ?_
   exact kz)
  obtain ⟨fs, hr, hrun, hended, hW, hsame⟩ := X0.leave (v := some (.int y0)) (fun h => by rw [Bd.returns] at h; cases h)
  refine ⟨_, _, pre0 _ (S4 _ ?_), hrun, hended, _, _, rfl, ?_, ⟨_, rfl⟩, hW, hsame.mono (by decide) (by decide)⟩
  · exact retI X0 hx Bd.returns (Y 4 rfl) hr
  · show QrmMax Z y0 y1 h0 n0 _ s₁.heap _
    rw [e0]
    exact ⟨congrArg (fun z => some (Value.int z)) (if_neg hc2_2).symm, N0, rfl⟩
theorem D_rmMin : oL jdk_29_method_69_code [(0, .iload_n 0, 1), (1, .iload_n 1, 1), (2, .if_icmp .gt 7, 3), (9, .iload_n 1, 1), (10, .ireturn, 1), (5, .iload_n 0, 1), (6, .goto 4, 3)] := by decide +kernel
def QrmMin (Z : State) (y0 : Int32) (y1 : Int32) (h0 : Heap) (n0 : Nat) (v : Option Value) (h : Heap) (L : List Loc) : Prop := v = some (.int (own_mi y0 y1)) ∧ Fr n0 L ∧ h = h0
theorem rmMin (l : Launch) (Z : State) (av0 : Array Value) (hw : ∀ d ∈ tables_1, d.before av0 Z = true) (ws : List Jvm.Cond) (y0 : Int32) (y1 : Int32) (h0 : Heap) (n0 : Nat) (Z0 : n0 ≤ h0.size)  :
   own_Met l mN3 jdk_29_method_69_code 2 (some .int) ws ({ frames := 0, cells := 0, slots := 0, locals := 0 } : Room) #[(.int y0), (.int y1)] Z h0 (QrmMin Z y0 y1 h0 n0) := by
 refine MetFree.of_bodySF (Jvm.Free.JP.mathPlain rfl (by decide +kernel)) hisR ?_
 intro p e s m args below meth c s₁ Bd hml0 hP hK
 obtain ⟨rfl, hZ, hh⟩ := hP
 have hml : c.maxLocals = 2 := hml0
 obtain ⟨hx, hby, hown, hnm, X0, e0⟩ := own_start Bd hml0 hh
 have N0 := Fr.nil n0
 have Y := @oY _ _ _ hby D_rmMin
 obtain ⟨P0, in0, pre0⟩ : ∃ P : State → Prop, (∀ tz, oS p e below s₁ (mkF m 0 #[iv y0, iv y1] []) tz → P tz) ∧ ∀ tz, P tz → Steps p.tables e below (s₁.setTop (entryFrame m #[(.int y0), (.int y1)] 2)) tz := ⟨_, fun _ kz => kz, fun tz kz => castTop (by first | (simp [entryFrame, mkF, argsToLocals, Value.category]; done) | rfl) kz⟩
 have S1 : ∀ tz, oS p e below s₁ (mkF m 2 #[iv y0, iv y1] [(.int y1), (.int y0)]) tz → P0 tz := fun tz kz => in0 tz (by
  refine XS.iloadN X0.here hx rfl (Y 0 rfl) rfl ?_
  refine XS.iloadN X0.here hx rfl (Y 1 rfl) rfl ?_
  exact kz)
 by_cases hc2_2 : y1 < y0
 ·have S3 : ∀ tz, oS p e below s₁ (mkF m 10 #[iv y0, iv y1] [(.int y1)]) tz → P0 tz := fun tz kz => S1 tz (by
   refine XS.icmpYes X0.here hx rfl (pc0 := 2) (pc' := 9) rfl (Y 2 rfl) rfl (XT.ii_gt_t hc2_2) (by decide) (by decide) ?_
   refine XS.iloadN X0.here hx rfl (Y 3 rfl) rfl ?_
   exact kz)
  obtain ⟨fs, hr, hrun, hended, hW, hsame⟩ := X0.leave (v := some (.int y1)) (fun h => by rw [Bd.returns] at h; cases h)
  refine ⟨_, _, pre0 _ (S3 _ ?_), hrun, hended, _, _, rfl, ?_, ⟨_, rfl⟩, hW, hsame.mono (by decide) (by decide)⟩
  · exact retI X0 hx Bd.returns (Y 4 rfl) hr
  · show QrmMin Z y0 y1 h0 n0 _ s₁.heap _
    rw [e0]
    exact ⟨congrArg (fun z => some (Value.int z)) (if_pos hc2_2).symm, N0, rfl⟩
 ·have S4 : ∀ tz, oS p e below s₁ (mkF m 10 #[iv y0, iv y1] [(.int y0)]) tz → P0 tz := fun tz kz => S1 tz (by
   refine XS.icmpNo X0.here hx rfl (Y 2 rfl) rfl (XT.ii_gt_f hc2_2) ?_
   refine XS.iloadN X0.here hx rfl (Y 5 rfl) rfl ?_
   refine XS.goto X0.here hx rfl (pc0 := 6) (pc' := 10) rfl (Y 6 rfl) (by decide) (by decide) ?_
   exact kz)
  obtain ⟨fs, hr, hrun, hended, hW, hsame⟩ := X0.leave (v := some (.int y0)) (fun h => by rw [Bd.returns] at h; cases h)
  refine ⟨_, _, pre0 _ (S4 _ ?_), hrun, hended, _, _, rfl, ?_, ⟨_, rfl⟩, hW, hsame.mono (by decide) (by decide)⟩
  · exact retI X0 hx Bd.returns (Y 4 rfl) hr
  · show QrmMin Z y0 y1 h0 n0 _ s₁.heap _
    rw [e0]
    exact ⟨congrArg (fun z => some (Value.int z)) (if_neg hc2_2).symm, N0, rfl⟩
theorem D_rmNL : oL jdk_48_method_27_code [(0, .iload_n 0, 1), (1, .iload_n 1, 1), (2, .iload_n 2, 1), (3, .invokestatic 194, 3), (6, .iadd, 1), (7, .istore_n 3, 1), (8, .iconst 0, 1), (9, .iload_n 3, 1), (10, .if_icmp .ge 11, 3), (13, .iload_n 3, 1), (14, .ldc 200, 2), (16, .if_icmp .gt 5, 3), (19, .iload_n 3, 1), (20, .ireturn, 1)] := by decide +kernel
theorem pn_ArraysSupport : plainName "jdk/internal/util/ArraysSupport" = true := by first | (simp [plainName, overriddenIn]; done) | decide +kernel
theorem pd__II_I : parseMethodDescriptor "(II)I" = some ⟨[.int, .int], some .int⟩ := by decide +kernel
def QrmNL (Z : State) (x : Nat) (y : Nat) (z : Nat) (h0 : Heap) (n0 : Nat) (v : Option Value) (h : Heap) (L : List Loc) : Prop := v = some (.int (own_n (x + max y z))) ∧ Fr n0 L ∧ h = h0
theorem rmNL (l : Launch) (Z : State) (av0 : Array Value) (hw : ∀ d ∈ tables_1, d.before av0 Z = true) (ws : List Jvm.Cond) (x : Nat) (y : Nat) (z : Nat) (h0 : Heap) (n0 : Nat) (Z0 : n0 ≤ h0.size) (hx : 0 < x ∧ x < 1000) (hy : y < 1000) (hz : z < 2000) :
   own_Met l mN4 jdk_48_method_27_code 4 (some .int) ws ({ frames := 1, cells := 0, slots := 0, locals := 14 } : Room) #[(.int (own_n x)), (.int (own_n y)), (.int (own_n z))] Z h0 (QrmNL Z x y z h0 n0) := by
 refine MetFree.of_bodySF (plainFor_of_name pn_ArraysSupport) hisR ?_
 intro p e s m args below meth c s₁ Bd hml0 hP hK
 obtain ⟨rfl, hZ, hh⟩ := hP
 have hml : c.maxLocals = 4 := hml0
 obtain ⟨hx, hby, hown, hnm, X0, e0⟩ := own_start Bd hml0 hh
 have N0 := Fr.nil n0
 have Y := @oY _ _ _ hby D_rmNL
 obtain ⟨P0, in0, pre0⟩ : ∃ P : State → Prop, (∀ tz, oS p e below s₁ (mkF m 0 #[iv (own_n x), iv (own_n y), iv (own_n z), .unset] []) tz → P tz) ∧ ∀ tz, P tz → Steps p.tables e below (s₁.setTop (entryFrame m #[(.int (own_n x)), (.int (own_n y)), (.int (own_n z))] 4)) tz := ⟨_, fun _ kz => kz, fun tz kz => castTop (by first | (simp [entryFrame, mkF, argsToLocals, Value.category]; done) | rfl) kz⟩
 obtain ⟨_, T1, Lc1, X1, hQ1, st1⟩ := own_callS (W := 1) (y := mN2) X0 hx hZ hown (oq hw 126 rfl) (oq hw 127 rfl) (oq hw 128 rfl) (oq hw 129 rfl) (by decide) (rmMax l Z av0 hw [] (own_n y) (own_n z) h0 n0 Z0 ) (by decide) (by decide) (g := (mkF m 3 #[iv (own_n x), iv (own_n y), iv (own_n z), .unset] [(.int (own_n z)), (.int (own_n y)), (.int (own_n x))])) rfl (by rw [hml]; rfl) (argsL := [(.int (own_n y)), (.int (own_n z))]) (rest := [(.int (own_n x))]) (lenOf pd__II_I rfl) rfl (Y 3 rfl) rfl e0 (by decide : 0 + 0 ≤ _) (by decide : 0 + 0 ≤ _)
 obtain ⟨rfl, N1q, hh1⟩ := hQ1
 have N1 := Fr.app N0 N1q
 have e1 : T1.heap = h0 := hh1
 have S2 : ∀ tz, oS p e below T1 (mkF m 20 #[iv (own_n x), iv (own_n y), iv (own_n z), iv ((own_n (x + max y z)))] [(.int (own_n (x + max y z)))]) tz → P0 tz := fun tz kz => in0 tz (by
  refine XS.iloadN X0.here hx rfl (Y 0 rfl) rfl ?_
  refine XS.iloadN X0.here hx rfl (Y 1 rfl) rfl ?_
  refine XS.iloadN X0.here hx rfl (Y 2 rfl) rfl ?_
  refine st1 _ ?_
  show oS p e below T1 (mkF m 6 #[iv (own_n x), iv (own_n y), iv (own_n z), .unset] [(.int (own_mx (own_n y) (own_n z))), (.int (own_n x))]) _
  rw [own_mxN (by omega) (by omega)]
  show oS p e below T1 (mkF m 6 #[iv (own_n x), iv (own_n y), iv (own_n z), .unset] [(.int (own_n (max y z))), (.int (own_n x))]) _
  refine XS.iadd X1.here hx rfl (Y 4 rfl) rfl ?_
  show oS p e below T1 (mkF m 7 #[iv (own_n x), iv (own_n y), iv (own_n z), .unset] [(.int ((own_n x) + (own_n (max y z))))]) _
  rw [own_nplus]
  show oS p e below T1 (mkF m 7 #[iv (own_n x), iv (own_n y), iv (own_n z), .unset] [(.int (own_n (x + max y z)))]) _
  refine XS.istoreN X1.here hx rfl (Y 5 rfl) rfl (l' := #[iv (own_n x), iv (own_n y), iv (own_n z), iv ((own_n (x + max y z)))]) rfl ?_
  refine XT.iconstV X1.here hx rfl (0 : Int32) (Y 6 rfl) (by decide) ?_
  refine XS.iloadN X1.here hx rfl (Y 7 rfl) rfl ?_
  show oS p e below T1 (mkF m 10 #[iv (own_n x), iv (own_n y), iv (own_n z), iv ((own_n (x + max y z)))] [(.int (own_n (x + max y z))), (.int 0)]) _
  refine XS.icmpNo X1.here hx rfl (Y 8 rfl) rfl (XT.ii_ge_f (show (0 : Int32) < own_n _ from (own_cmpN (x := 0) (by decide) (by omega)).mpr (by omega))) ?_
  refine XS.iloadN X1.here hx rfl (Y 9 rfl) rfl ?_
  refine X1.ldcI hx hown (mvT hZ (oq hw 130 rfl)) rfl (Y 10 rfl) ?_
  refine XS.icmpNo X1.here hx rfl (Y 11 rfl) rfl (XT.ii_gt_f (fun q => absurd ((own_cmpN (x := 2147483639) (by decide) (by omega)).mp q) (by omega))) ?_
  refine XS.iloadN X1.here hx rfl (Y 12 rfl) rfl ?_
  exact kz)
 obtain ⟨fs, hr, hrun, hended, hW, hsame⟩ := X1.leave (v := some (.int (own_n (x + max y z)))) (fun h => by rw [Bd.returns] at h; cases h)
 refine ⟨_, _, pre0 _ (S2 _ ?_), hrun, hended, _, _, rfl, ?_, ⟨_, rfl⟩, hW, hsame.mono (by decide) (by decide)⟩
 · exact retI X1 hx Bd.returns (Y 13 rfl) hr
 · show QrmNL Z x y z h0 n0 _ T1.heap _
   rw [e1]
   exact ⟨rfl, N1, rfl⟩
theorem D_rmNC : oL jdk_68_method_10_code [(0, .aload_n 0, 1), (1, .getfield 15, 3), (4, .arraylength, 1), (5, .istore_n 2, 1), (6, .iload_n 1, 1), (7, .aload_n 0, 1), (8, .getfield 22, 3), (11, .ishl, 1), (12, .istore_n 3, 1), (13, .iload_n 3, 1), (14, .iload_n 2, 1), (15, .isub, 1), (16, .istore 4, 2), (18, .iload_n 2, 1), (19, .iload 4, 2), (21, .iload_n 2, 1), (22, .iconst 2, 1), (23, .aload_n 0, 1), (24, .getfield 22, 3), (27, .ishl, 1), (28, .iadd, 1), (29, .invokestatic 114, 3), (32, .istore 5, 2), (34, .iload 5, 2), (36, .ldc 39, 2), (38, .if_icmp .ne 13, 3), (51, .iload 5, 2), (53, .aload_n 0, 1), (54, .getfield 22, 3), (57, .ishr, 1), (58, .ireturn, 1)] := by decide +kernel
theorem pn_AbstractStringBuilder : plainName "java/lang/AbstractStringBuilder" = true := by first | (simp [plainName, overriddenIn]; done) | decide +kernel
theorem pd__III_I : parseMethodDescriptor "(III)I" = some ⟨[.int, .int, .int], some .int⟩ := by decide +kernel
def QrmNC (Z : State) (a0 : Addr) (b0 : Addr) (cap : Nat) (n : Nat) (g : Nat → Int32) (need : Nat) (h0 : Heap) (n0 : Nat) (v : Option Value) (h : Heap) (L : List Loc) : Prop := v = some (.int (own_n (max need (2 * cap + 2)))) ∧ Fr n0 L ∧ h = h0
theorem rmNC (l : Launch) (Z : State) (av0 : Array Value) (hw : ∀ d ∈ tables_1, d.before av0 Z = true) (ws : List Jvm.Cond) (a0 : Addr) (b0 : Addr) (cap : Nat) (n : Nat) (g : Nat → Int32) (need : Nat) (h0 : Heap) (n0 : Nat) (Z0 : n0 ≤ h0.size) (hD : own_Bd Z h0 a0 b0 cap n g) (hne : a0 ≠ b0) (hbd : 0 < cap ∧ cap < need ∧ need ≤ 70) :
   own_Met l mN5 jdk_68_method_10_code 6 (some .int) ws ({ frames := 2, cells := 0, slots := 0, locals := 29 } : Room) #[(.ref a0), (.int (own_n need))] Z h0 (QrmNC Z a0 b0 cap n g need h0 n0) := by
 refine MetFree.of_bodySF (plainFor_of_name pn_AbstractStringBuilder) hisR ?_
 intro p e s m args below meth c s₁ Bd hml0 hP hK
 obtain ⟨rfl, hZ, hh⟩ := hP
 have hml : c.maxLocals = 6 := hml0
 obtain ⟨hx, hby, hown, hnm, X0, e0⟩ := own_start Bd hml0 hh
 have N0 := Fr.nil n0
 have Y := @oY _ _ _ hby D_rmNC
 obtain ⟨P0, in0, pre0⟩ : ∃ P : State → Prop, (∀ tz, oS p e below s₁ (mkF m 0 #[rv a0, iv (own_n need), .unset, .unset, .unset, .unset] []) tz → P tz) ∧ ∀ tz, P tz → Steps p.tables e below (s₁.setTop (entryFrame m #[(.ref a0), (.int (own_n need))] 6)) tz := ⟨_, fun _ kz => kz, fun tz kz => castTop (by first | (simp [entryFrame, mkF, argsToLocals, Value.category]; done) | rfl) kz⟩
 obtain ⟨T1, X1, e1, st1⟩ := getF X0 hx hZ hown (host := "") (Or.inl (oq hw 61 rfl)) Via.refl e0 hD.V (g := (mkF m 1 #[rv a0, iv (own_n need), .unset, .unset, .unset, .unset] [(.ref a0)])) rfl rfl (Y 1 rfl)
 obtain ⟨kc2, cl2, Ar2, qk2, Sz2, Ng2, Hs2, Gs2⟩ := id hD.A
 obtain ⟨T3, X3, e3, st3⟩ := getF X1 hx hZ hown (host := "") (Or.inl (oq hw 63 rfl)) Via.refl e1 hD.C (g := (mkF m 8 #[rv a0, iv (own_n need), iv (own_n cap), .unset, .unset, .unset] [(.ref a0), (.int (own_n need))])) rfl rfl (Y 6 rfl)
 obtain ⟨T4, X4, e4, st4⟩ := getF X3 hx hZ hown (host := "") (Or.inl (oq hw 63 rfl)) Via.refl e3 hD.C (g := (mkF m 24 #[rv a0, iv (own_n need), iv (own_n cap), iv (own_n need), iv ((own_n (need - cap))), .unset] [(.ref a0), (.int 2), (.int (own_n cap)), (.int (own_n (need - cap))), (.int (own_n cap))])) rfl rfl (Y 18 rfl)
 obtain ⟨_, T5, Lc5, X5, hQ5, st5⟩ := own_callS (W := 0) (y := mN4) X4 hx hZ hown (oq hw 122 rfl) (oq hw 123 rfl) (oq hw 124 rfl) (oq hw 125 rfl) (by decide) (rmNL l Z av0 hw [] cap (need - cap) (cap + 2) h0 n0 Z0 ⟨by omega, by omega⟩ (by omega) (by omega)) (by decide) (by decide) (g := (mkF m 29 #[rv a0, iv (own_n need), iv (own_n cap), iv (own_n need), iv ((own_n (need - cap))), .unset] [(.int (own_n (cap + 2))), (.int (own_n (need - cap))), (.int (own_n cap))])) rfl (by rw [hml]; rfl) (argsL := [(.int (own_n cap)), (.int (own_n (need - cap))), (.int (own_n (cap + 2)))]) (rest := []) (lenOf pd__III_I rfl) rfl (Y 21 rfl) rfl e4 (by decide : 0 + 0 ≤ _) (by decide : 0 + 0 ≤ _)
 obtain ⟨rfl, N5q, hh5⟩ := hQ5
 have N5 := Fr.app N0 N5q
 have e5 : T5.heap = h0 := hh5
 obtain ⟨T6, X6, e6, st6⟩ := getF X5 hx hZ hown (host := "") (Or.inl (oq hw 63 rfl)) Via.refl e5 hD.C (g := (mkF m 54 #[rv a0, iv (own_n need), iv (own_n cap), iv (own_n need), iv ((own_n (need - cap))), iv ((own_n (max need (2 * cap + 2))))] [(.ref a0), (.int (own_n (max need (2 * cap + 2))))])) rfl rfl (Y 28 rfl)
 have S7 : ∀ tz, oS p e below T6 (mkF m 58 #[rv a0, iv (own_n need), iv (own_n cap), iv (own_n need), iv ((own_n (need - cap))), iv ((own_n (max need (2 * cap + 2))))] [(.int (own_n (max need (2 * cap + 2))))]) tz → P0 tz := fun tz kz => in0 tz (by
  refine XS.aloadN X0.here hx rfl (Y 0 rfl) rfl rfl ?_
  refine st1 _ ?_
  refine X1.arraylength hx (by rw [e1]; exact Ar2.1) (State.isArrayOf_alike hZ.alike Ar2.2.1) (g := (mkF m 4 #[rv a0, iv (own_n need), .unset, .unset, .unset, .unset] [(.ref b0)])) rfl rfl (Y 2 rfl) _ ?_
  rw [len_of Sz2 Ng2]
  refine XS.istoreN X1.here hx rfl (Y 3 rfl) rfl (l' := #[rv a0, iv (own_n need), iv (own_n cap), .unset, .unset, .unset]) rfl ?_
  refine XS.iloadN X1.here hx rfl (Y 4 rfl) rfl ?_
  refine XS.aloadN X1.here hx rfl (Y 5 rfl) rfl rfl ?_
  refine st3 _ ?_
  refine XT.ishl X3.here hx rfl (Y 7 rfl) rfl ?_
  show oS p e below T3 (mkF m 12 #[rv a0, iv (own_n need), iv (own_n cap), .unset, .unset, .unset] [(.int ((own_n need) <<< ((0 : Int32) &&& 31)))]) _
  rw [own_shl0]
  show oS p e below T3 (mkF m 12 #[rv a0, iv (own_n need), iv (own_n cap), .unset, .unset, .unset] [(.int (own_n need))]) _
  refine XS.istoreN X3.here hx rfl (Y 8 rfl) rfl (l' := #[rv a0, iv (own_n need), iv (own_n cap), iv (own_n need), .unset, .unset]) rfl ?_
  show oS p e below T3 (mkF m 13 #[rv a0, iv (own_n need), iv (own_n cap), iv (own_n need), .unset, .unset] []) _
  refine XS.iloadN X3.here hx rfl (Y 9 rfl) rfl ?_
  refine XS.iloadN X3.here hx rfl (Y 10 rfl) rfl ?_
  refine XS.isub X3.here hx rfl (Y 11 rfl) rfl ?_
  show oS p e below T3 (mkF m 16 #[rv a0, iv (own_n need), iv (own_n cap), iv (own_n need), .unset, .unset] [(.int ((own_n need) - (own_n cap)))]) _
  rw [own_nsubN (x := need) (y := cap) (by omega) (by omega)]
  show oS p e below T3 (mkF m 16 #[rv a0, iv (own_n need), iv (own_n cap), iv (own_n need), .unset, .unset] [(.int (own_n (need - cap)))]) _
  refine XS.istore X3.here hx rfl (Y 12 rfl) rfl (l' := #[rv a0, iv (own_n need), iv (own_n cap), iv (own_n need), iv ((own_n (need - cap))), .unset]) rfl ?_
  refine XS.iloadN X3.here hx rfl (Y 13 rfl) rfl ?_
  refine XS.iload X3.here hx rfl (Y 14 rfl) rfl ?_
  refine XS.iloadN X3.here hx rfl (Y 15 rfl) rfl ?_
  refine XT.iconstV X3.here hx rfl (2 : Int32) (Y 16 rfl) (by decide) ?_
  refine XS.aloadN X3.here hx rfl (Y 17 rfl) rfl rfl ?_
  show oS p e below T3 (mkF m 24 #[rv a0, iv (own_n need), iv (own_n cap), iv (own_n need), iv ((own_n (need - cap))), .unset] [(.ref a0), (.int 2), (.int (own_n cap)), (.int (own_n (need - cap))), (.int (own_n cap))]) _
  refine st4 _ ?_
  refine XT.ishl X4.here hx rfl (Y 19 rfl) rfl ?_
  refine XS.iadd X4.here hx rfl (Y 20 rfl) rfl ?_
  show oS p e below T4 (mkF m 29 #[rv a0, iv (own_n need), iv (own_n cap), iv (own_n need), iv ((own_n (need - cap))), .unset] [(.int ((own_n cap) + (2 : Int32))), (.int (own_n (need - cap))), (.int (own_n cap))]) _
  rw [own_nplus2]
  show oS p e below T4 (mkF m 29 #[rv a0, iv (own_n need), iv (own_n cap), iv (own_n need), iv ((own_n (need - cap))), .unset] [(.int (own_n (cap + 2))), (.int (own_n (need - cap))), (.int (own_n cap))]) _
  refine st5 _ ?_
  show oS p e below T5 (mkF m 32 #[rv a0, iv (own_n need), iv (own_n cap), iv (own_n need), iv ((own_n (need - cap))), .unset] [(.int (own_n (cap + max (need - cap) (cap + 2))))]) _
  rw [show cap + max (need - cap) (cap + 2) = max need (2 * cap + 2) by omega]
  show oS p e below T5 (mkF m 32 #[rv a0, iv (own_n need), iv (own_n cap), iv (own_n need), iv ((own_n (need - cap))), .unset] [(.int (own_n (max need (2 * cap + 2))))]) _
  refine XS.istore X5.here hx rfl (Y 22 rfl) rfl (l' := #[rv a0, iv (own_n need), iv (own_n cap), iv (own_n need), iv ((own_n (need - cap))), iv ((own_n (max need (2 * cap + 2))))]) rfl ?_
  refine XS.iload X5.here hx rfl (Y 23 rfl) rfl ?_
  refine X5.ldcI hx hown (mvT hZ (oq hw 131 rfl)) rfl (Y 24 rfl) ?_
  refine XS.icmpYes X5.here hx rfl (pc0 := 38) (pc' := 51) rfl (Y 25 rfl) rfl (XT.ii_ne_t (own_nne (j := 2147483647) (by omega) (by decide) (by omega))) (by decide) (by decide) ?_
  show oS p e below T5 (mkF m 51 #[rv a0, iv (own_n need), iv (own_n cap), iv (own_n need), iv ((own_n (need - cap))), iv ((own_n (max need (2 * cap + 2))))] []) _
  refine XS.iload X5.here hx rfl (Y 26 rfl) rfl ?_
  refine XS.aloadN X5.here hx rfl (Y 27 rfl) rfl rfl ?_
  refine st6 _ ?_
  refine XT.ishr X6.here hx rfl (Y 29 rfl) rfl ?_
  show oS p e below T6 (mkF m 58 #[rv a0, iv (own_n need), iv (own_n cap), iv (own_n need), iv ((own_n (need - cap))), iv ((own_n (max need (2 * cap + 2))))] [(.int ((own_n (max need (2 * cap + 2))) >>> ((0 : Int32) &&& 31)))]) _
  rw [own_sh0 (by omega)]
  show oS p e below T6 (mkF m 58 #[rv a0, iv (own_n need), iv (own_n cap), iv (own_n need), iv ((own_n (need - cap))), iv ((own_n (max need (2 * cap + 2))))] [(.int (own_n (max need (2 * cap + 2))))]) _
  exact kz)
 obtain ⟨fs, hr, hrun, hended, hW, hsame⟩ := X6.leave (v := some (.int (own_n (max need (2 * cap + 2))))) (fun h => by rw [Bd.returns] at h; cases h)
 refine ⟨_, _, pre0 _ (S7 _ ?_), hrun, hended, _, _, rfl, ?_, ⟨_, rfl⟩, hW, hsame.mono (by decide) (by decide)⟩
 · exact retI X6 hx Bd.returns (Y 30 rfl) hr
 · show QrmNC Z a0 b0 cap n g need h0 n0 _ T6.heap _
   rw [e6]
   exact ⟨rfl, N5, rfl⟩
theorem D_rmCO : oL jdk_65_method_121_code [(0, .iload_n 1, 1), (1, .aload_n 0, 1), (2, .arraylength, 1), (3, .if_icmp .ne 11, 3), (14, .iload_n 1, 1), (15, .newarray .byte, 2), (17, .astore_n 2, 1), (18, .aload_n 0, 1), (19, .iconst 0, 1), (20, .aload_n 2, 1), (21, .iconst 0, 1), (22, .aload_n 0, 1), (23, .arraylength, 1), (24, .iload_n 1, 1), (25, .invokestatic 304, 3), (28, .invokestatic 150, 3), (31, .aload_n 2, 1), (32, .areturn, 1)] := by decide +kernel
theorem pn_Arrays : plainName "java/util/Arrays" = true := by first | (simp [plainName, overriddenIn]; done) | decide +kernel
def QrmCO (Z : State) (a0 : Addr) (n : Nat) (g : Nat → Int32) (need : Nat) (h0 : Heap) (n0 : Nat) (v : Option Value) (h : Heap) (L : List Loc) : Prop := ∃ b : Addr, v = some (.ref b) ∧ Fr n0 L ∧ h0.size ≤ b ∧ Keep h0 h [] ∧ own_Ab Z h b need (own_cp g (fun _ => 0) 0 0 n)
theorem rmCO (l : Launch) (Z : State) (av0 : Array Value) (hw : ∀ d ∈ tables_1, d.before av0 Z = true) (ws : List Jvm.Cond) (a0 : Addr) (n : Nat) (g : Nat → Int32) (need : Nat) (h0 : Heap) (n0 : Nat) (Z0 : n0 ≤ h0.size) (hA : own_Ab Z h0 a0 n g) (hbd : n < need ∧ need ≤ 140) :
   own_Met l mN6 jdk_65_method_121_code 3 (some (.array .byte)) ws ({ frames := 1, cells := 1, slots := 140, locals := 40 } : Room) #[(.ref a0), (.int (own_n need))] Z h0 (QrmCO Z a0 n g need h0 n0) := by
 refine MetFree.of_bodySF (plainFor_of_name pn_Arrays) hisR ?_
 intro p e s m args below meth c s₁ Bd hml0 hP hK
 obtain ⟨rfl, hZ, hh⟩ := hP
 have hml : c.maxLocals = 3 := hml0
 obtain ⟨hx, hby, hown, hnm, X0, e0⟩ := own_start Bd hml0 hh
 have N0 := Fr.nil n0
 have Y := @oY _ _ _ hby D_rmCO
 obtain ⟨P0, in0, pre0⟩ : ∃ P : State → Prop, (∀ tz, oS p e below s₁ (mkF m 0 #[rv a0, iv (own_n need), .unset] []) tz → P tz) ∧ ∀ tz, P tz → Steps p.tables e below (s₁.setTop (entryFrame m #[(.ref a0), (.int (own_n need))] 3)) tz := ⟨_, fun _ kz => kz, fun tz kz => castTop (by first | (simp [entryFrame, mkF, argsToLocals, Value.category]; done) | rfl) kz⟩
 obtain ⟨kc1, cl1, Ar1, qk1, Sz1, Ng1, Hs1, Gs1⟩ := id hA
 obtain ⟨T2, h2, k2, X2, e2, E2, A2, st2⟩ := newP X0 hx hZ (oq hw 3 rfl) e0 (g := (mkF m 15 #[rv a0, iv (own_n need), .unset] [(.int (own_n need))])) rfl (Y 5 rfl) rfl (own_nge (by omega)) (cap := 140) (by rw [own_nc (by omega)]; omega) (by decide) (by decide) (by decide)
 obtain ⟨b2, g2⟩ : ∃ z, z = h0.size := ⟨_, rfl⟩
 rw [← g2] at A2 st2
 have ne_a0_b2 : a0 ≠ b2 := Nat.ne_of_lt (Nat.lt_of_lt_of_le hA.lt (Nat.le_of_eq g2.symm))
 have ge_b2 : n0 ≤ b2 := Nat.le_trans Z0 (Nat.le_of_eq g2.symm)
 have sz_b2 : h0.size ≤ b2 := Nat.le_of_eq g2.symm
 have Z2 : n0 ≤ h2.size := Nat.le_trans Z0 E2.1
 have K2 : Keep h0 h2 [] := (Keep.refl h0 []).ext E2
 have V2 : own_Ab Z h2 b2 need (fun _ => 0) := own_newB need (by omega) A2
 have f3 := (hA.ext E2)
 obtain ⟨kc4, cl4, Ar4, qk4, Sz4, Ng4, Hs4, Gs4⟩ := id f3
 obtain ⟨_, T5, Lc5, X5, hQ5, st5⟩ := own_callS (W := 4) (y := mN3) X2 hx hZ hown (oq hw 136 rfl) (oq hw 137 rfl) (oq hw 128 rfl) (oq hw 138 rfl) (by decide) (rmMin l Z av0 hw [] (own_n n) (own_n need) h2 n0 Z2 ) (by decide) (by decide) (g := (mkF m 25 #[rv a0, iv (own_n need), rv b2] [(.int (own_n need)), (.int (own_n n)), (.int 0), (.ref b2), (.int 0), (.ref a0)])) rfl (by rw [hml]; rfl) (argsL := [(.int (own_n n)), (.int (own_n need))]) (rest := [(.int 0), (.ref b2), (.int 0), (.ref a0)]) (lenOf pd__II_I rfl) rfl (Y 14 rfl) rfl e2 (by decide : 1 + 0 ≤ _) (by decide : 140 + 0 ≤ _)
 obtain ⟨rfl, N5q, hh5⟩ := hQ5
 have N5 := Fr.app N0 N5q
 have e5 : T5.heap = h2 := hh5
 obtain ⟨ka6, Aa6⟩ := id f3
 obtain ⟨kb6, Ab6⟩ := id V2
 have qc6_0 : ((0 : Int32)).toNatClampNeg = 0 := rfl
 have qc6_2 : ((own_n n)).toNatClampNeg = n := own_nc (i := n) (by omega)
 have qc6_4 : ((own_n need)).toNatClampNeg = need := own_nc (i := need) (by omega)
 obtain ⟨T6, h6, L6, X6, e6, N6, K6, B6, st6⟩ := cpA X5 hx hZ hown (oq hw 139 rfl) (oq hw 115 rfl) (oq hw 113 rfl) (oq hw 114 rfl) e5 (sp := (0 : Int32)) (dp := (0 : Int32)) (nn := (own_n n)) Aa6 Ab6 (Or.inl ⟨rfl, rfl⟩) (by decide) (by decide) (own_nge (i := n) (by omega)) (by have := (show 0 + n ≤ n by omega); omega) (by have := (show 0 + n ≤ need by omega); omega) rfl (by have := (show 0 + n ≤ need by omega); rw [own_vlen]; omega) N5 ge_b2 (g := (mkF m 28 #[rv a0, iv (own_n need), rv b2] [(.int (own_n n)), (.int 0), (.ref b2), (.int 0), (.ref a0)])) rfl (by rw [hml]; rfl) (rest := []) rfl (Y 15 rfl) (by decide) (W := 0) (by show 2 * 0 + _ ≤ _; exact Nat.le_of_eq rfl) (by decide)
 rw [qc6_0, qc6_2, own_cpl (n := n) (n' := need) (sp := 0) (dp := 0) (m := n) (show 0 + n ≤ n by omega) (show 0 + n ≤ need by omega)] at B6
 have V6 : own_Ab Z h6 b2 need (own_cp g (fun _ => 0) 0 0 n) := ⟨_, B6⟩
 have Zk6 : n0 ≤ h6.size := Nat.le_trans Z2 K6.1
 have Kk6 : Keep h0 h6 [] := K2.trans K6 (allS (Or.inr sz_b2) all0)
 have S7 : ∀ tz, oS p e below T6 (mkF m 32 #[rv a0, iv (own_n need), rv b2] [(.ref b2)]) tz → P0 tz := fun tz kz => in0 tz (by
  refine XS.iloadN X0.here hx rfl (Y 0 rfl) rfl ?_
  refine XS.aloadN X0.here hx rfl (Y 1 rfl) rfl rfl ?_
  refine X0.arraylength hx (by rw [e0]; exact Ar1.1) (State.isArrayOf_alike hZ.alike Ar1.2.1) (g := (mkF m 2 #[rv a0, iv (own_n need), .unset] [(.ref a0), (.int (own_n need))])) rfl rfl (Y 2 rfl) _ ?_
  rw [len_of Sz1 Ng1]
  refine XS.icmpYes X0.here hx rfl (pc0 := 3) (pc' := 14) rfl (Y 3 rfl) rfl (XT.ii_ne_t (own_nne (by omega) (by omega) (by omega))) (by decide) (by decide) ?_
  refine XS.iloadN X0.here hx rfl (Y 4 rfl) rfl ?_
  refine st2 _ ?_
  refine XS.astoreN X2.here hx rfl (Y 6 rfl) rfl rfl (l' := #[rv a0, iv (own_n need), rv b2]) rfl ?_
  refine XS.aloadN X2.here hx rfl (Y 7 rfl) rfl rfl ?_
  refine XT.iconstV X2.here hx rfl (0 : Int32) (Y 8 rfl) (by decide) ?_
  refine XS.aloadN X2.here hx rfl (Y 9 rfl) rfl rfl ?_
  show oS p e below T2 (mkF m 21 #[rv a0, iv (own_n need), rv b2] [(.ref b2), (.int 0), (.ref a0)]) _
  refine XT.iconstV X2.here hx rfl (0 : Int32) (Y 10 rfl) (by decide) ?_
  refine XS.aloadN X2.here hx rfl (Y 11 rfl) rfl rfl ?_
  refine X2.arraylength hx (by rw [e2]; exact Ar4.1) (State.isArrayOf_alike hZ.alike Ar4.2.1) (g := (mkF m 23 #[rv a0, iv (own_n need), rv b2] [(.ref a0), (.int 0), (.ref b2), (.int 0), (.ref a0)])) rfl rfl (Y 12 rfl) _ ?_
  rw [len_of Sz4 Ng4]
  refine XS.iloadN X2.here hx rfl (Y 13 rfl) rfl ?_
  refine st5 _ ?_
  show oS p e below T5 (mkF m 28 #[rv a0, iv (own_n need), rv b2] [(.int (own_mi (own_n n) (own_n need))), (.int 0), (.ref b2), (.int 0), (.ref a0)]) _
  rw [own_miN (by omega) (by omega), show min n need = n by omega]
  show oS p e below T5 (mkF m 28 #[rv a0, iv (own_n need), rv b2] [(.int (own_n n)), (.int 0), (.ref b2), (.int 0), (.ref a0)]) _
  refine st6 _ ?_
  refine XS.aloadN X6.here hx rfl (Y 16 rfl) rfl rfl ?_
  exact kz)
 obtain ⟨fs, hr, hrun, hended, hW, hsame⟩ := X6.leave (v := some (.ref b2)) (fun h => by rw [Bd.returns] at h; cases h)
 refine ⟨_, _, pre0 _ (S7 _ ?_), hrun, hended, _, _, rfl, ?_, ⟨_, rfl⟩, hW, hsame.mono (by decide) (by decide)⟩
 · jvm_step X6.here [X6.here.top, hx, (Y 17 rfl), X6.method', Bd.returns, Value.isRef, FieldType.isReference]
   first | (intro acts; rw [hr _ acts rfl rfl rfl]) | rw [hr _ _ rfl rfl rfl]
   exact Steps.refl _
 · show QrmCO Z a0 n g need h0 n0 _ T6.heap _
   rw [e6]
   exact ⟨_, rfl, N6, sz_b2, Kk6, V6⟩
theorem own_grN {cap need : Nat} (h : need ≤ cap) : own_gr cap need = cap := if_pos h
theorem own_grY {cap need : Nat} (h : cap < need) : own_gr cap need = max need (2 * cap + 2) := if_neg (by omega)
theorem own_ec0 {x y : Nat} (hx : x < 2147483648) (hy : y < 2147483648) (h : ¬ (0 : Int32) < own_n x - own_n y) : x ≤ y := by
  rw [Int32.lt_iff_toInt_lt, own_nsubI hx hy, show (0 : Int32).toInt = 0 from rfl] at h; omega
theorem own_ec1 {x y : Nat} (hx : x < 2147483648) (hy : y < 2147483648) (h : (0 : Int32) < own_n x - own_n y) : y < x := by
  rw [Int32.lt_iff_toInt_lt, own_nsubI hx hy, show (0 : Int32).toInt = 0 from rfl] at h; omega
theorem own_cpI {gs gd : Nat → Int32} {k i : Nat} (h : i < k) : own_cp gs gd 0 0 k i = gs i := by
  unfold own_cp; rw [if_pos ⟨Nat.zero_le _, by omega⟩, show 0 + (i - 0) = i by omega]
theorem own_Bd.nns {Z : State} {h : Heap} {a b : Addr} {cap n : Nat} {g : Nat → Int32} (D : own_Bd Z h a b cap n g) : ∀ cl : Cell, h[a]? = some cl → cl.vm.isStatics = false := own_exns D.E
theorem D_rmEC : oL jdk_68_method_9_code [(0, .aload_n 0, 1), (1, .getfield 15, 3), (4, .arraylength, 1), (5, .aload_n 0, 1), (6, .getfield 22, 3), (9, .ishr, 1), (10, .istore_n 2, 1), (11, .iload_n 1, 1), (12, .iload_n 2, 1), (13, .isub, 1), (14, .ifCond .le 24, 3), (17, .aload_n 0, 1), (18, .aload_n 0, 1), (19, .getfield 15, 3), (22, .aload_n 0, 1), (23, .iload_n 1, 1), (24, .invokevirtual 104, 3), (27, .aload_n 0, 1), (28, .getfield 22, 3), (31, .ishl, 1), (32, .invokestatic 108, 3), (35, .putfield 15, 3), (38, .return_, 1)] := by decide +kernel
theorem pd__I_I : parseMethodDescriptor "(I)I" = some ⟨[.int], some .int⟩ := by decide +kernel
theorem pd__A_BI_A_B : parseMethodDescriptor "([BI)[B" = some ⟨[(.array .byte), .int], some (.array .byte)⟩ := by decide +kernel
def QrmEC (Z : State) (a0 : Addr) (b0 : Addr) (cap : Nat) (n : Nat) (g : Nat → Int32) (need : Nat) (h0 : Heap) (n0 : Nat) (v : Option Value) (h : Heap) (L : List Loc) : Prop := v = none ∧ Fr n0 L ∧ ∃ (b : Addr) (gn : Nat → Int32), Keep h0 h [a0] ∧ own_Bd Z h a0 b (own_gr cap need) n gn ∧ (∀ i, i < cap → gn i = g i) ∧ (b = b0 ∨ h0.size ≤ b)
theorem rmEC (l : Launch) (Z : State) (av0 : Array Value) (hw : ∀ d ∈ tables_1, d.before av0 Z = true) (ws : List Jvm.Cond) (a0 : Addr) (b0 : Addr) (cap : Nat) (n : Nat) (g : Nat → Int32) (need : Nat) (h0 : Heap) (n0 : Nat) (Z0 : n0 ≤ h0.size) (hD : own_Bd Z h0 a0 b0 cap n g) (hne : a0 ≠ b0) (hga : n0 ≤ a0) (hgb : n0 ≤ b0) (hbd : 0 < cap ∧ need ≤ 70 ∧ cap < 1000) :
   own_Met l mN7 jdk_68_method_9_code 3 none ws ({ frames := 3, cells := 1, slots := 140, locals := 55 } : Room) #[(.ref a0), (.int (own_n need))] Z h0 (QrmEC Z a0 b0 cap n g need h0 n0) := by
 refine MetFree.of_bodySF (plainFor_of_name pn_AbstractStringBuilder) hisR ?_
 intro p e s m args below meth c s₁ Bd hml0 hP hK
 obtain ⟨rfl, hZ, hh⟩ := hP
 have hml : c.maxLocals = 3 := hml0
 obtain ⟨hx, hby, hown, hnm, X0, e0⟩ := own_start Bd hml0 hh
 have N0 := Fr.nil n0
 have Y := @oY _ _ _ hby D_rmEC
 obtain ⟨P0, in0, pre0⟩ : ∃ P : State → Prop, (∀ tz, oS p e below s₁ (mkF m 0 #[rv a0, iv (own_n need), .unset] []) tz → P tz) ∧ ∀ tz, P tz → Steps p.tables e below (s₁.setTop (entryFrame m #[(.ref a0), (.int (own_n need))] 3)) tz := ⟨_, fun _ kz => kz, fun tz kz => castTop (by first | (simp [entryFrame, mkF, argsToLocals, Value.category]; done) | rfl) kz⟩
 obtain ⟨T1, X1, e1, st1⟩ := getF X0 hx hZ hown (host := "") (Or.inl (oq hw 61 rfl)) Via.refl e0 hD.V (g := (mkF m 1 #[rv a0, iv (own_n need), .unset] [(.ref a0)])) rfl rfl (Y 1 rfl)
 obtain ⟨kc2, cl2, Ar2, qk2, Sz2, Ng2, Hs2, Gs2⟩ := id hD.A
 obtain ⟨T3, X3, e3, st3⟩ := getF X1 hx hZ hown (host := "") (Or.inl (oq hw 63 rfl)) Via.refl e1 hD.C (g := (mkF m 6 #[rv a0, iv (own_n need), .unset] [(.ref a0), (.int (own_n cap))])) rfl rfl (Y 4 rfl)
 have S4 : ∀ tz, oS p e below T3 (mkF m 14 #[rv a0, iv (own_n need), iv (own_n cap)] [(.int ((own_n need) - (own_n cap)))]) tz → P0 tz := fun tz kz => in0 tz (by
  refine XS.aloadN X0.here hx rfl (Y 0 rfl) rfl rfl ?_
  refine st1 _ ?_
  refine X1.arraylength hx (by rw [e1]; exact Ar2.1) (State.isArrayOf_alike hZ.alike Ar2.2.1) (g := (mkF m 4 #[rv a0, iv (own_n need), .unset] [(.ref b0)])) rfl rfl (Y 2 rfl) _ ?_
  rw [len_of Sz2 Ng2]
  refine XS.aloadN X1.here hx rfl (Y 3 rfl) rfl rfl ?_
  refine st3 _ ?_
  refine XT.ishr X3.here hx rfl (Y 5 rfl) rfl ?_
  show oS p e below T3 (mkF m 10 #[rv a0, iv (own_n need), .unset] [(.int ((own_n cap) >>> ((0 : Int32) &&& 31)))]) _
  rw [own_sh0 (by omega)]
  show oS p e below T3 (mkF m 10 #[rv a0, iv (own_n need), .unset] [(.int (own_n cap))]) _
  refine XS.istoreN X3.here hx rfl (Y 6 rfl) rfl (l' := #[rv a0, iv (own_n need), iv (own_n cap)]) rfl ?_
  refine XS.iloadN X3.here hx rfl (Y 7 rfl) rfl ?_
  refine XS.iloadN X3.here hx rfl (Y 8 rfl) rfl ?_
  show oS p e below T3 (mkF m 13 #[rv a0, iv (own_n need), iv (own_n cap)] [(.int (own_n cap)), (.int (own_n need))]) _
  refine XS.isub X3.here hx rfl (Y 9 rfl) rfl ?_
  exact kz)
 by_cases hc14_5 : (0 : Int32) < ((own_n need) - (own_n cap))
 ·have S6 : ∀ tz, oS p e below T3 (mkF m 17 #[rv a0, iv (own_n need), iv (own_n cap)] []) tz → P0 tz := fun tz kz => S4 tz (by
   refine XS.ifNo X3.here hx rfl (Y 10 rfl) rfl (XT.i0_le_f hc14_5) ?_
   exact kz)
  have hgr := own_ec1 (by omega) (by omega) hc14_5
  obtain ⟨T7, X7, e7, st7⟩ := getF X3 hx hZ hown (host := "") (Or.inl (oq hw 61 rfl)) Via.refl e3 hD.V (g := (mkF m 19 #[rv a0, iv (own_n need), iv (own_n cap)] [(.ref a0), (.ref a0)])) rfl rfl (Y 13 rfl)
  obtain ⟨_, T8, Lc8, X8, hQ8, st8⟩ := own_privateS (W := 2) (y := mN5) X7 hx hZ hown (oq hw 117 rfl) (oq hw 120 rfl) (oq hw 119 rfl) (oq hw 118 rfl) (oq hw 121 rfl) (oq hw 57 rfl) (by decide) (rmNC l Z av0 hw [] a0 b0 cap n g need h0 n0 Z0 (own_Bd.mk hD.E hD.C hD.V hD.N hD.A) hne ⟨by omega, by omega, by omega⟩) (by decide) (by decide) hD.E (g := (mkF m 24 #[rv a0, iv (own_n need), iv (own_n cap)] [(.int (own_n need)), (.ref a0), (.ref b0), (.ref a0)])) rfl (by rw [hml]; rfl) (argsL := [(.int (own_n need))]) (rest := [(.ref b0), (.ref a0)]) (lenOf pd__I_I rfl) rfl (Y 16 rfl) rfl e7 (by decide : 0 + 0 ≤ _) (by decide : 0 + 0 ≤ _)
  obtain ⟨rfl, N8q, hh8⟩ := hQ8
  have N8 := Fr.app N0 N8q
  have e8 : T8.heap = h0 := hh8
  obtain ⟨T9, X9, e9, st9⟩ := getF X8 hx hZ hown (host := "") (Or.inl (oq hw 63 rfl)) Via.refl e8 hD.C (g := (mkF m 28 #[rv a0, iv (own_n need), iv (own_n cap)] [(.ref a0), (.int (own_n (max need (2 * cap + 2)))), (.ref b0), (.ref a0)])) rfl rfl (Y 18 rfl)
  obtain ⟨_, T10, Lc10, X10, hQ10, st10⟩ := own_callS (W := 1) (y := mN6) X9 hx hZ hown (oq hw 132 rfl) (oq hw 133 rfl) (oq hw 134 rfl) (oq hw 135 rfl) (by decide) (rmCO l Z av0 hw [] b0 cap g (max need (2 * cap + 2)) h0 n0 Z0 hD.A ⟨by omega, by omega⟩) (by decide) (by decide) (g := (mkF m 32 #[rv a0, iv (own_n need), iv (own_n cap)] [(.int (own_n (max need (2 * cap + 2)))), (.ref b0), (.ref a0)])) rfl (by rw [hml]; rfl) (argsL := [(.ref b0), (.int (own_n (max need (2 * cap + 2))))]) (rest := [(.ref a0)]) (lenOf pd__A_BI_A_B rfl) rfl (Y 20 rfl) rfl e9 (by decide : 0 + 1 ≤ _) (by decide : 0 + 140 ≤ _)
  obtain ⟨b10, rfl, N10q, gb10, K10, V10⟩ := hQ10
  have N10 := Fr.app N8 N10q
  have e10 : T10.heap = T10.heap := rfl
  have ne_a0_b10 : a0 ≠ b10 := Nat.ne_of_lt (Nat.lt_of_lt_of_le hD.E.lt gb10)
  have ne_b0_b10 : b0 ≠ b10 := Nat.ne_of_lt (Nat.lt_of_lt_of_le hD.A.lt gb10)
  have ge_b10 : n0 ≤ b10 := Nat.le_trans Z0 gb10
  have sz_b10 : h0.size ≤ b10 := gb10
  have Zk10 : n0 ≤ T10.heap.size := Nat.le_trans Z0 K10.1
  have Kk10 : Keep h0 T10.heap [a0] := (Keep.refl h0 [a0]).trans K10 all0
  have f11 := (hD.V.keep K10 nin0)
  have f12 := (hD.E.keep K10)
  obtain ⟨T13, h13, X13, e13, W13, st13⟩ := putF X10 hx hZ hown (host := "") (Or.inl (oq hw 61 rfl)) Via.refl e10 f11 f12 (Or.inl (oq hw 62 rfl)) (oq hw 48 rfl) (ty := (.array .byte)) (by decide) rfl rfl (g := (mkF m 35 #[rv a0, iv (own_n need), iv (own_n cap)] [(.ref b10), (.ref a0)])) rfl rfl (Y 21 rfl)
  have N13 := Fr.snoc X13 N10 hga
  have Z13 : n0 ≤ h13.size := Nat.le_trans Zk10 (Nat.le_of_eq W13.size.symm)
  have K13 : Keep h0 h13 [a0] := Kk10.wr W13 (Or.inl (List.mem_of_getElem? (i := 0) rfl))
  have Fw13 := f11.same W13
  have S14 : ∀ tz, oS p e below T13 (mkF m 38 #[rv a0, iv (own_n need), iv (own_n cap)] []) tz → P0 tz := fun tz kz => S6 tz (by
   refine XS.aloadN X3.here hx rfl (Y 11 rfl) rfl rfl ?_
   refine XS.aloadN X3.here hx rfl (Y 12 rfl) rfl rfl ?_
   refine st7 _ ?_
   refine XS.aloadN X7.here hx rfl (Y 14 rfl) rfl rfl ?_
   refine XS.iloadN X7.here hx rfl (Y 15 rfl) rfl ?_
   refine st8 _ ?_
   refine XS.aloadN X8.here hx rfl (Y 17 rfl) rfl rfl ?_
   refine st9 _ ?_
   show oS p e below T9 (mkF m 31 #[rv a0, iv (own_n need), iv (own_n cap)] [(.int 0), (.int (own_n (max need (2 * cap + 2)))), (.ref b0), (.ref a0)]) _
   refine XT.ishl X9.here hx rfl (Y 19 rfl) rfl ?_
   show oS p e below T9 (mkF m 32 #[rv a0, iv (own_n need), iv (own_n cap)] [(.int ((own_n (max need (2 * cap + 2))) <<< ((0 : Int32) &&& 31))), (.ref b0), (.ref a0)]) _
   rw [own_shl0]
   show oS p e below T9 (mkF m 32 #[rv a0, iv (own_n need), iv (own_n cap)] [(.int (own_n (max need (2 * cap + 2)))), (.ref b0), (.ref a0)]) _
   refine st10 _ ?_
   refine st13 _ ?_
   exact kz)
  obtain ⟨fs, hr, hrun, hended, hW, hsame⟩ := X13.leave (v := none) (fun _ => rfl)
  refine ⟨_, _, pre0 _ (S14 _ ?_), hrun, hended, _, _, rfl, ?_, ⟨_, rfl⟩, hW, hsame.mono (by decide) (by decide)⟩
  · exact X13.returnOut hx Bd.returns (Y 22 rfl) hr
  have f15 := (f12.wr W13)
  have f16 := ((hD.C.keep K10 nin0).other W13 (Or.inr (slot_ne (Or.inl (oq hw 64 rfl)) (Or.inl (oq hw 62 rfl)) (by decide) (t := .byte) (t' := (.array .byte)) (by decide) (by decide))))
  have f17 := ((hD.N.keep K10 nin0).other W13 (Or.inr (slot_ne (Or.inl (oq hw 90 rfl)) (Or.inl (oq hw 62 rfl)) (by decide) (t := .int) (t' := (.array .byte)) (by decide) (by decide))))
  have f18 := (V10.other W13 (Ne.symm ne_a0_b10))
  · show QrmEC Z a0 b0 cap n g need h0 n0 _ T13.heap _
    rw [e13]
    exact ⟨rfl, N13, b10, _, K13, (by rw [own_grY (own_ec1 (by omega) (by omega) hc14_5)]; exact (own_Bd.mk f15 f16 Fw13 f17 f18)), fun i hi => own_cpI (by omega), Or.inr sz_b10⟩
 ·have S19 : ∀ tz, oS p e below T3 (mkF m 38 #[rv a0, iv (own_n need), iv (own_n cap)] []) tz → P0 tz := fun tz kz => S4 tz (by
   refine XS.ifYes X3.here hx rfl (pc0 := 14) (pc' := 38) rfl (Y 10 rfl) rfl (XT.i0_le_t hc14_5) (by decide) (by decide) ?_
   exact kz)
  obtain ⟨fs, hr, hrun, hended, hW, hsame⟩ := X3.leave (v := none) (fun _ => rfl)
  refine ⟨_, _, pre0 _ (S19 _ ?_), hrun, hended, _, _, rfl, ?_, ⟨_, rfl⟩, hW, hsame.mono (by decide) (by decide)⟩
  · exact X3.returnOut hx Bd.returns (Y 22 rfl) hr
  · show QrmEC Z a0 b0 cap n g need h0 n0 _ T3.heap _
    rw [e3]
    exact ⟨rfl, N0, b0, g, Keep.refl h0 [a0], (by rw [own_grN (own_ec0 (by omega) (by omega) hc14_5)]; exact (own_Bd.mk hD.E hD.C hD.V hD.N hD.A)), fun _ _ => rfl, Or.inl rfl⟩
theorem D_rmIN : oL jdk_68_method_71_code [(0, .getstatic 18, 3), (3, .ifCond .eq 18, 3), (6, .aload_n 0, 1), (7, .getfield 22, 3), (10, .aload_n 1, 1), (11, .invokevirtual 40, 3), (14, .if_icmp .eq 7, 3), (21, .return_, 1)] := by decide +kernel
def QrmIN (Z : State) (a0 : Addr) (b0 : Addr) (cap : Nat) (n : Nat) (g : Nat → Int32) (sa : Addr) (sb : Addr) (nt : Nat) (gt : Nat → Int32) (wC : Int32) (h0 : Heap) (n0 : Nat) (v : Option Value) (h : Heap) (L : List Loc) : Prop := v = none ∧ Fr n0 L ∧ h = h0
theorem rmIN (l : Launch) (Z : State) (av0 : Array Value) (hw : ∀ d ∈ tables_1, d.before av0 Z = true) (ws : List Jvm.Cond) (a0 : Addr) (b0 : Addr) (cap : Nat) (n : Nat) (g : Nat → Int32) (sa : Addr) (sb : Addr) (nt : Nat) (gt : Nat → Int32) (wC : Int32) (h0 : Heap) (n0 : Nat) (Z0 : n0 ≤ h0.size) (hD : own_Bd Z h0 a0 b0 cap n g) (hT : own_Str Z h0 sa sb nt gt) (hSC : Sta Z h0 "java/lang/String" "COMPACT_STRINGS" "Z" (.int wC)) (hwC : ¬ wC = (0 : Int32)) :
   own_Met l mN8 jdk_68_method_71_code 2 none ws ({ frames := 1, cells := 0, slots := 0, locals := 13 } : Room) #[(.ref a0), (.ref sa)] Z h0 (QrmIN Z a0 b0 cap n g sa sb nt gt wC h0 n0) := by
 refine MetFree.of_bodySF (plainFor_of_name pn_AbstractStringBuilder) hisR ?_
 intro p e s m args below meth c s₁ Bd hml0 hP hK
 obtain ⟨rfl, hZ, hh⟩ := hP
 have hml : c.maxLocals = 2 := hml0
 obtain ⟨hx, hby, hown, hnm, X0, e0⟩ := own_start Bd hml0 hh
 have N0 := Fr.nil n0
 have Y := @oY _ _ _ hby D_rmIN
 obtain ⟨P0, in0, pre0⟩ : ∃ P : State → Prop, (∀ tz, oS p e below s₁ (mkF m 0 #[rv a0, rv sa] []) tz → P tz) ∧ ∀ tz, P tz → Steps p.tables e below (s₁.setTop (entryFrame m #[(.ref a0), (.ref sa)] 2)) tz := ⟨_, fun _ kz => kz, fun tz kz => castTop (by first | (simp [entryFrame, mkF, argsToLocals, Value.category]; done) | rfl) kz⟩
 obtain ⟨T1, X1, e1, st1⟩ := getS2 X0 hx hZ hown (host := "") (Or.inl (oq hw 60 rfl)) Via.refl e0 hSC (g := (mkF m 0 #[rv a0, rv sa] [])) rfl (Y 0 rfl)
 obtain ⟨T2, X2, e2, st2⟩ := getF X1 hx hZ hown (host := "") (Or.inl (oq hw 63 rfl)) Via.refl e1 hD.C (g := (mkF m 7 #[rv a0, rv sa] [(.ref a0)])) rfl rfl (Y 3 rfl)
 obtain ⟨_, T3, Lc3, X3, hQ3, st3⟩ := own_virtual (W := 1) (y := mN0) (z := mN0) X2 hx hZ hown (oq hw 106 rfl) (oq hw 83 rfl) (notFace_of_selects (args := #[]) (mvT hZ (oq hw 85 rfl))) (oq hw 85 rfl) (oq hw 84 rfl) (oq hw 86 rfl) (oq hw 1 rfl) (by decide) (rmCoder l Z av0 hw [] sa wC h0 n0 Z0 hT.C hSC hwC) (by decide) (by decide) hT.E (g := (mkF m 11 #[rv a0, rv sa] [(.ref sa), (.int 0)])) rfl (by rw [hml]; rfl) (argsL := []) (rest := [(.int 0)]) (lenOf pd__B rfl) rfl (Y 5 rfl) rfl e2 (by decide : 0 + 0 ≤ _) (by decide : 0 + 0 ≤ _)
 obtain ⟨rfl, N3q, hh3⟩ := hQ3
 have N3 := Fr.app N0 N3q
 have e3 : T3.heap = h0 := hh3
 have S4 : ∀ tz, oS p e below T3 (mkF m 21 #[rv a0, rv sa] []) tz → P0 tz := fun tz kz => in0 tz (by
  refine st1 _ ?_
  refine XS.ifNo X1.here hx rfl (Y 1 rfl) rfl (XT.i0_eq_f hwC) ?_
  refine XS.aloadN X1.here hx rfl (Y 2 rfl) rfl rfl ?_
  refine st2 _ ?_
  refine XS.aloadN X2.here hx rfl (Y 4 rfl) rfl rfl ?_
  refine st3 _ ?_
  refine XS.icmpYes X3.here hx rfl (pc0 := 14) (pc' := 21) rfl (Y 6 rfl) rfl (XT.ii_eq_t (by decide)) (by decide) (by decide) ?_
  exact kz)
 obtain ⟨fs, hr, hrun, hended, hW, hsame⟩ := X3.leave (v := none) (fun _ => rfl)
 refine ⟨_, _, pre0 _ (S4 _ ?_), hrun, hended, _, _, rfl, ?_, ⟨_, rfl⟩, hW, hsame.mono (by decide) (by decide)⟩
 · exact X3.returnOut hx Bd.returns (Y 7 rfl) hr
 · show QrmIN Z a0 b0 cap n g sa sb nt gt wC h0 n0 _ T3.heap _
   rw [e3]
   exact ⟨rfl, N3, rfl⟩
theorem D_rmGB : oL jdk_42_method_147_code [(0, .aload_n 0, 1), (1, .invokevirtual 335, 3), (4, .iload_n 3, 1), (5, .if_icmp .ne 23, 3), (8, .aload_n 0, 1), (9, .getfield 9, 3), (12, .iconst 0, 1), (13, .aload_n 1, 1), (14, .iload_n 2, 1), (15, .iload_n 3, 1), (16, .ishl, 1), (17, .aload_n 0, 1), (18, .getfield 9, 3), (21, .arraylength, 1), (22, .invokestatic 212, 3), (25, .goto 18, 3), (43, .return_, 1)] := by decide +kernel
def QrmGB (Z : State) (sa : Addr) (sb : Addr) (nt : Nat) (gt : Nat → Int32) (b0 : Addr) (cap : Nat) (n : Nat) (g : Nat → Int32) (wC : Int32) (h0 : Heap) (n0 : Nat) (v : Option Value) (h : Heap) (L : List Loc) : Prop := v = none ∧ Fr n0 L ∧ Keep h0 h [b0] ∧ own_Ab Z h b0 cap (own_cp gt g 0 n nt)
theorem rmGB (l : Launch) (Z : State) (av0 : Array Value) (hw : ∀ d ∈ tables_1, d.before av0 Z = true) (ws : List Jvm.Cond) (sa : Addr) (sb : Addr) (nt : Nat) (gt : Nat → Int32) (b0 : Addr) (cap : Nat) (n : Nat) (g : Nat → Int32) (wC : Int32) (h0 : Heap) (n0 : Nat) (Z0 : n0 ≤ h0.size) (hT : own_Str Z h0 sa sb nt gt) (hA : own_Ab Z h0 b0 cap g) (hgb : n0 ≤ b0) (hbd : n + nt ≤ cap ∧ cap < 1000) (hSC : Sta Z h0 "java/lang/String" "COMPACT_STRINGS" "Z" (.int wC)) (hwC : ¬ wC = (0 : Int32)) :
   own_Met l mN9 jdk_42_method_147_code 4 none ws ({ frames := 1, cells := 0, slots := 0, locals := 40 } : Room) #[(.ref sa), (.ref b0), (.int (own_n n)), (.int 0)] Z h0 (QrmGB Z sa sb nt gt b0 cap n g wC h0 n0) := by
 refine MetFree.of_bodySF (plainFor_of_name pn_String) hisR ?_
 intro p e s m args below meth c s₁ Bd hml0 hP hK
 obtain ⟨rfl, hZ, hh⟩ := hP
 have hml : c.maxLocals = 4 := hml0
 obtain ⟨hx, hby, hown, hnm, X0, e0⟩ := own_start Bd hml0 hh
 have N0 := Fr.nil n0
 have Y := @oY _ _ _ hby D_rmGB
 obtain ⟨P0, in0, pre0⟩ : ∃ P : State → Prop, (∀ tz, oS p e below s₁ (mkF m 0 #[rv sa, rv b0, iv (own_n n), iv 0] []) tz → P tz) ∧ ∀ tz, P tz → Steps p.tables e below (s₁.setTop (entryFrame m #[(.ref sa), (.ref b0), (.int (own_n n)), (.int 0)] 4)) tz := ⟨_, fun _ kz => kz, fun tz kz => castTop (by first | (simp [entryFrame, mkF, argsToLocals, Value.category]; done) | rfl) kz⟩
 obtain ⟨_, T1, Lc1, X1, hQ1, st1⟩ := own_virtual (W := 0) (y := mN0) (z := mN0) X0 hx hZ hown (oq hw 82 rfl) (oq hw 83 rfl) (notFace_of_selects (args := #[]) (mvT hZ (oq hw 85 rfl))) (oq hw 85 rfl) (oq hw 84 rfl) (oq hw 86 rfl) (oq hw 1 rfl) (by decide) (rmCoder l Z av0 hw [] sa wC h0 n0 Z0 hT.C hSC hwC) (by decide) (by decide) hT.E (g := (mkF m 1 #[rv sa, rv b0, iv (own_n n), iv 0] [(.ref sa)])) rfl (by rw [hml]; rfl) (argsL := []) (rest := []) (lenOf pd__B rfl) rfl (Y 1 rfl) rfl e0 (by decide : 0 + 0 ≤ _) (by decide : 0 + 0 ≤ _)
 obtain ⟨rfl, N1q, hh1⟩ := hQ1
 have N1 := Fr.app N0 N1q
 have e1 : T1.heap = h0 := hh1
 obtain ⟨T2, X2, e2, st2⟩ := getF X1 hx hZ hown (host := "") (Or.inl (oq hw 81 rfl)) Via.refl e1 hT.V (g := (mkF m 9 #[rv sa, rv b0, iv (own_n n), iv 0] [(.ref sa)])) rfl rfl (Y 5 rfl)
 obtain ⟨T3, X3, e3, st3⟩ := getF X2 hx hZ hown (host := "") (Or.inl (oq hw 81 rfl)) Via.refl e2 hT.V (g := (mkF m 18 #[rv sa, rv b0, iv (own_n n), iv 0] [(.ref sa), (.int (own_n n)), (.ref b0), (.int 0), (.ref sb)])) rfl rfl (Y 12 rfl)
 obtain ⟨kc4, cl4, Ar4, qk4, Sz4, Ng4, Hs4, Gs4⟩ := id hT.A
 obtain ⟨ka5, Aa5⟩ := id hT.A
 obtain ⟨kb5, Ab5⟩ := id hA
 have qc5_0 : ((0 : Int32)).toNatClampNeg = 0 := rfl
 have qc5_1 : ((own_n n)).toNatClampNeg = n := own_nc (i := n) (by omega)
 have qc5_2 : ((own_n nt)).toNatClampNeg = nt := own_nc (i := nt) (by omega)
 have qc5_4 : ((own_n cap)).toNatClampNeg = cap := own_nc (i := cap) (by omega)
 obtain ⟨T5, h5, L5, X5, e5, N5, K5, B5, st5⟩ := cpA X3 hx hZ hown (oq hw 112 rfl) (oq hw 115 rfl) (oq hw 113 rfl) (oq hw 114 rfl) e3 (sp := (0 : Int32)) (dp := (own_n n)) (nn := (own_n nt)) Aa5 Ab5 (Or.inl ⟨rfl, rfl⟩) (by decide) (own_nge (i := n) (by omega)) (own_nge (i := nt) (by omega)) (by have := (show 0 + nt ≤ nt by omega); omega) (by have := (show n + nt ≤ cap by omega); omega) rfl (by have := (show n + nt ≤ cap by omega); rw [own_vlen]; omega) N1 hgb (g := (mkF m 22 #[rv sa, rv b0, iv (own_n n), iv 0] [(.int (own_n nt)), (.int (own_n n)), (.ref b0), (.int 0), (.ref sb)])) rfl (by rw [hml]; rfl) (rest := []) rfl (Y 14 rfl) (by decide) (W := 0) (by show 2 * 0 + _ ≤ _; exact Nat.le_of_eq rfl) (by decide)
 rw [qc5_1, qc5_2, qc5_0, own_cpl (n := nt) (n' := cap) (sp := 0) (dp := n) (m := nt) (show 0 + nt ≤ nt by omega) (show n + nt ≤ cap by omega)] at B5
 have V5 : own_Ab Z h5 b0 cap (own_cp gt g 0 n nt) := ⟨_, B5⟩
 have Zk5 : n0 ≤ h5.size := Nat.le_trans Z0 K5.1
 have Kk5 : Keep h0 h5 [b0] := (Keep.refl h0 [b0]).trans K5 (allS (Or.inl (List.mem_of_getElem? (i := 0) rfl)) all0)
 have S6 : ∀ tz, oS p e below T5 (mkF m 43 #[rv sa, rv b0, iv (own_n n), iv 0] []) tz → P0 tz := fun tz kz => in0 tz (by
  refine XS.aloadN X0.here hx rfl (Y 0 rfl) rfl rfl ?_
  refine st1 _ ?_
  refine XS.iloadN X1.here hx rfl (Y 2 rfl) rfl ?_
  refine XS.icmpNo X1.here hx rfl (Y 3 rfl) rfl (XT.ii_ne_f (by decide)) ?_
  refine XS.aloadN X1.here hx rfl (Y 4 rfl) rfl rfl ?_
  refine st2 _ ?_
  refine XT.iconstV X2.here hx rfl (0 : Int32) (Y 6 rfl) (by decide) ?_
  refine XS.aloadN X2.here hx rfl (Y 7 rfl) rfl rfl ?_
  refine XS.iloadN X2.here hx rfl (Y 8 rfl) rfl ?_
  refine XS.iloadN X2.here hx rfl (Y 9 rfl) rfl ?_
  show oS p e below T2 (mkF m 16 #[rv sa, rv b0, iv (own_n n), iv 0] [(.int 0), (.int (own_n n)), (.ref b0), (.int 0), (.ref sb)]) _
  refine XT.ishl X2.here hx rfl (Y 10 rfl) rfl ?_
  show oS p e below T2 (mkF m 17 #[rv sa, rv b0, iv (own_n n), iv 0] [(.int ((own_n n) <<< ((0 : Int32) &&& 31))), (.ref b0), (.int 0), (.ref sb)]) _
  rw [own_shl0]
  show oS p e below T2 (mkF m 17 #[rv sa, rv b0, iv (own_n n), iv 0] [(.int (own_n n)), (.ref b0), (.int 0), (.ref sb)]) _
  refine XS.aloadN X2.here hx rfl (Y 11 rfl) rfl rfl ?_
  refine st3 _ ?_
  refine X3.arraylength hx (by rw [e3]; exact Ar4.1) (State.isArrayOf_alike hZ.alike Ar4.2.1) (g := (mkF m 21 #[rv sa, rv b0, iv (own_n n), iv 0] [(.ref sb), (.int (own_n n)), (.ref b0), (.int 0), (.ref sb)])) rfl rfl (Y 13 rfl) _ ?_
  rw [len_of Sz4 Ng4]
  refine st5 _ ?_
  refine XS.goto X5.here hx rfl (pc0 := 25) (pc' := 43) rfl (Y 15 rfl) (by decide) (by decide) ?_
  exact kz)
 obtain ⟨fs, hr, hrun, hended, hW, hsame⟩ := X5.leave (v := none) (fun _ => rfl)
 refine ⟨_, _, pre0 _ (S6 _ ?_), hrun, hended, _, _, rfl, ?_, ⟨_, rfl⟩, hW, hsame.mono (by decide) (by decide)⟩
 · exact X5.returnOut hx Bd.returns (Y 16 rfl) hr
 · show QrmGB Z sa sb nt gt b0 cap n g wC h0 n0 _ T5.heap _
   rw [e5]
   exact ⟨rfl, N5, Kk5, V5⟩
theorem D_rmPS : oL jdk_68_method_73_code [(0, .aload_n 0, 1), (1, .aload_n 2, 1), (2, .invokevirtual 397, 3), (5, .aload_n 2, 1), (6, .aload_n 0, 1), (7, .getfield 15, 3), (10, .iload_n 1, 1), (11, .aload_n 0, 1), (12, .getfield 22, 3), (15, .invokevirtual 399, 3), (18, .return_, 1)] := by decide +kernel
theorem pd__Ljava_lang_String_V : parseMethodDescriptor "(Ljava/lang/String;)V" = some ⟨[(.object "java/lang/String")], none⟩ := by decide +kernel
theorem pd__A_BIB_V : parseMethodDescriptor "([BIB)V" = some ⟨[(.array .byte), .int, .byte], none⟩ := by decide +kernel
def QrmPS (Z : State) (a0 : Addr) (b0 : Addr) (cap : Nat) (n : Nat) (g : Nat → Int32) (sa : Addr) (sb : Addr) (nt : Nat) (gt : Nat → Int32) (wC : Int32) (h0 : Heap) (n0 : Nat) (v : Option Value) (h : Heap) (L : List Loc) : Prop := v = none ∧ Fr n0 L ∧ Keep h0 h [b0] ∧ own_Ab Z h b0 cap (own_cp gt g 0 n nt)
theorem rmPS (l : Launch) (Z : State) (av0 : Array Value) (hw : ∀ d ∈ tables_1, d.before av0 Z = true) (ws : List Jvm.Cond) (a0 : Addr) (b0 : Addr) (cap : Nat) (n : Nat) (g : Nat → Int32) (sa : Addr) (sb : Addr) (nt : Nat) (gt : Nat → Int32) (wC : Int32) (h0 : Heap) (n0 : Nat) (Z0 : n0 ≤ h0.size) (hD : own_Bd Z h0 a0 b0 cap n g) (hne : a0 ≠ b0) (hga : n0 ≤ a0) (hgb : n0 ≤ b0) (hT : own_Str Z h0 sa sb nt gt) (hnA : sb ≠ b0) (hbd : n + nt ≤ cap ∧ cap < 1000) (hSC : Sta Z h0 "java/lang/String" "COMPACT_STRINGS" "Z" (.int wC)) (hwC : ¬ wC = (0 : Int32)) :
   own_Met l mN10 jdk_68_method_73_code 3 none ws ({ frames := 2, cells := 0, slots := 0, locals := 55 } : Room) #[(.ref a0), (.int (own_n n)), (.ref sa)] Z h0 (QrmPS Z a0 b0 cap n g sa sb nt gt wC h0 n0) := by
 refine MetFree.of_bodySF (plainFor_of_name pn_AbstractStringBuilder) hisR ?_
 intro p e s m args below meth c s₁ Bd hml0 hP hK
 obtain ⟨rfl, hZ, hh⟩ := hP
 have hml : c.maxLocals = 3 := hml0
 obtain ⟨hx, hby, hown, hnm, X0, e0⟩ := own_start Bd hml0 hh
 have N0 := Fr.nil n0
 have Y := @oY _ _ _ hby D_rmPS
 obtain ⟨P0, in0, pre0⟩ : ∃ P : State → Prop, (∀ tz, oS p e below s₁ (mkF m 0 #[rv a0, iv (own_n n), rv sa] []) tz → P tz) ∧ ∀ tz, P tz → Steps p.tables e below (s₁.setTop (entryFrame m #[(.ref a0), (.int (own_n n)), (.ref sa)] 3)) tz := ⟨_, fun _ kz => kz, fun tz kz => castTop (by first | (simp [entryFrame, mkF, argsToLocals, Value.category]; done) | rfl) kz⟩
 obtain ⟨_, T1, Lc1, X1, hQ1, st1⟩ := own_privateS (W := 0) (y := mN8) X0 hx hZ hown (oq hw 101 rfl) (oq hw 104 rfl) (oq hw 103 rfl) (oq hw 102 rfl) (oq hw 105 rfl) (oq hw 57 rfl) (by decide) (rmIN l Z av0 hw [] a0 b0 cap n g sa sb nt gt wC h0 n0 Z0 (own_Bd.mk hD.E hD.C hD.V hD.N hD.A) (own_Str.mk hT.E hT.C hT.V hT.A) hSC hwC) (by decide) (by decide) hD.E (g := (mkF m 2 #[rv a0, iv (own_n n), rv sa] [(.ref sa), (.ref a0)])) rfl (by rw [hml]; rfl) (argsL := [(.ref sa)]) (rest := []) (lenOf pd__Ljava_lang_String_V rfl) rfl (Y 2 rfl) rfl e0 (by decide : 0 + 0 ≤ _) (by decide : 0 + 0 ≤ _)
 obtain ⟨rfl, N1q, hh1⟩ := hQ1
 have N1 := Fr.app N0 N1q
 have e1 : T1.heap = h0 := hh1
 obtain ⟨T2, X2, e2, st2⟩ := getF X1 hx hZ hown (host := "") (Or.inl (oq hw 61 rfl)) Via.refl e1 hD.V (g := (mkF m 7 #[rv a0, iv (own_n n), rv sa] [(.ref a0), (.ref sa)])) rfl rfl (Y 5 rfl)
 obtain ⟨T3, X3, e3, st3⟩ := getF X2 hx hZ hown (host := "") (Or.inl (oq hw 63 rfl)) Via.refl e2 hD.C (g := (mkF m 12 #[rv a0, iv (own_n n), rv sa] [(.ref a0), (.int (own_n n)), (.ref b0), (.ref sa)])) rfl rfl (Y 8 rfl)
 obtain ⟨_, T4, Lc4, X4, hQ4, st4⟩ := own_virtual (W := 0) (y := mN9) (z := mN9) X3 hx hZ hown (oq hw 107 rfl) (oq hw 108 rfl) (notFace_of_selects (args := #[]) (mvT hZ (oq hw 110 rfl))) (oq hw 110 rfl) (oq hw 109 rfl) (oq hw 111 rfl) (oq hw 1 rfl) (by decide) (rmGB l Z av0 hw [] sa sb nt gt b0 cap n g wC h0 n0 Z0 (own_Str.mk hT.E hT.C hT.V hT.A) hD.A hgb ⟨by omega, by omega⟩ hSC hwC) (by decide) (by decide) hT.E (g := (mkF m 15 #[rv a0, iv (own_n n), rv sa] [(.int 0), (.int (own_n n)), (.ref b0), (.ref sa)])) rfl (by rw [hml]; rfl) (argsL := [(.ref b0), (.int (own_n n)), (.int 0)]) (rest := []) (lenOf pd__A_BIB_V rfl) rfl (Y 9 rfl) rfl e3 (by decide : 0 + 0 ≤ _) (by decide : 0 + 0 ≤ _)
 obtain ⟨rfl, N4q, K4, V4⟩ := hQ4
 have N4 := Fr.app N1 N4q
 have e4 : T4.heap = T4.heap := rfl
 have Zk4 : n0 ≤ T4.heap.size := Nat.le_trans Z0 K4.1
 have Kk4 : Keep h0 T4.heap [b0] := (Keep.refl h0 [b0]).trans K4 (allS (Or.inl (List.mem_of_getElem? (i := 0) rfl)) all0)
 have S5 : ∀ tz, oS p e below T4 (mkF m 18 #[rv a0, iv (own_n n), rv sa] []) tz → P0 tz := fun tz kz => in0 tz (by
  refine XS.aloadN X0.here hx rfl (Y 0 rfl) rfl rfl ?_
  refine XS.aloadN X0.here hx rfl (Y 1 rfl) rfl rfl ?_
  refine st1 _ ?_
  refine XS.aloadN X1.here hx rfl (Y 3 rfl) rfl rfl ?_
  refine XS.aloadN X1.here hx rfl (Y 4 rfl) rfl rfl ?_
  refine st2 _ ?_
  refine XS.iloadN X2.here hx rfl (Y 6 rfl) rfl ?_
  refine XS.aloadN X2.here hx rfl (Y 7 rfl) rfl rfl ?_
  refine st3 _ ?_
  refine st4 _ ?_
  show oS p e below T4 (mkF m 18 #[rv a0, iv (own_n n), rv sa] []) _
  exact kz)
 obtain ⟨fs, hr, hrun, hended, hW, hsame⟩ := X4.leave (v := none) (fun _ => rfl)
 refine ⟨_, _, pre0 _ (S5 _ ?_), hrun, hended, _, _, rfl, ?_, ⟨_, rfl⟩, hW, hsame.mono (by decide) (by decide)⟩
 · exact X4.returnOut hx Bd.returns (Y 10 rfl) hr
 · show QrmPS Z a0 b0 cap n g sa sb nt gt wC h0 n0 _ T4.heap _
   rw [e4]
   exact ⟨rfl, N4, Kk4, V4⟩
theorem own_or {a b d k : Nat} (q : b = d ∨ k ≤ b) (x : a ≠ d) (y : k ≤ b → a ≠ b) : a ≠ b := by
  rcases q with q | q
  · rw [q]; exact x
  · exact y q
theorem own_ge {b d k z : Nat} (q : b = d ∨ k ≤ b) (x : z ≤ d) (y : z ≤ k) : z ≤ b := by
  rcases q with q | q
  · rw [q]; exact x
  · omega
theorem own_grge (cap need : Nat) : need ≤ own_gr cap need := by unfold own_gr; split <;> omega
theorem own_grlt {cap need : Nat} (h1 : need ≤ 70) (h2 : cap ≤ 140) : own_gr cap need ≤ 140 := by unfold own_gr; split <;> omega
theorem own_cp0 {gs gd : Nat → Int32} {sp dp k i : Nat} (h : i < dp) : own_cp gs gd sp dp k i = gd i := by unfold own_cp; rw [if_neg (by omega)]
theorem own_cp1 {gs gd : Nat → Int32} {dp k i : Nat} (h : i < k) : own_cp gs gd 0 dp k (dp + i) = gs i := by
  unfold own_cp; rw [if_pos (by omega), show 0 + (dp + i - dp) = i by omega]
theorem own_kor {a b d : Addr} {k : Nat} (q : b = d ∨ k ≤ b) : b ∈ [a, d] ∨ k ≤ b := q.imp (fun z => by rw [z]; exact List.mem_of_getElem? (i := 1) rfl) id
theorem D_rmAS : oL jdk_68_method_22_code [(0, .aload_n 1, 1), (1, .ifnonnull 8, 3), (9, .aload_n 1, 1), (10, .invokevirtual 32, 3), (13, .istore_n 2, 1), (14, .aload_n 0, 1), (15, .aload_n 0, 1), (16, .getfield 79, 3), (19, .iload_n 2, 1), (20, .iadd, 1), (21, .invokevirtual 100, 3), (24, .aload_n 0, 1), (25, .aload_n 0, 1), (26, .getfield 79, 3), (29, .aload_n 1, 1), (30, .invokevirtual 208, 3), (33, .aload_n 0, 1), (34, .dup, 1), (35, .getfield 79, 3), (38, .iload_n 2, 1), (39, .iadd, 1), (40, .putfield 79, 3), (43, .aload_n 0, 1), (44, .areturn, 1)] := by decide +kernel
theorem pd__I : parseMethodDescriptor "()I" = some ⟨[], some .int⟩ := by decide +kernel
theorem pd__I_V : parseMethodDescriptor "(I)V" = some ⟨[.int], none⟩ := by decide +kernel
theorem pd__ILjava_lang_String_V : parseMethodDescriptor "(ILjava/lang/String;)V" = some ⟨[.int, (.object "java/lang/String")], none⟩ := by decide +kernel
def QrmAS (Z : State) (a0 : Addr) (b0 : Addr) (cap : Nat) (n : Nat) (g : Nat → Int32) (sa : Addr) (sb : Addr) (nt : Nat) (gt : Nat → Int32) (wC : Int32) (h0 : Heap) (n0 : Nat) (v : Option Value) (h : Heap) (L : List Loc) : Prop := v = some (.ref a0) ∧ Fr n0 L ∧ ∃ (b : Addr) (gn : Nat → Int32), Keep h0 h [a0, b0] ∧ own_Bd Z h a0 b (own_gr cap (n + nt)) (n + nt) gn ∧ (∀ i, i < n → gn i = g i) ∧ (∀ i, i < nt → gn (n + i) = gt i) ∧ (b = b0 ∨ h0.size ≤ b)
theorem rmAS (l : Launch) (Z : State) (av0 : Array Value) (hw : ∀ d ∈ tables_1, d.before av0 Z = true) (ws : List Jvm.Cond) (a0 : Addr) (b0 : Addr) (cap : Nat) (n : Nat) (g : Nat → Int32) (sa : Addr) (sb : Addr) (nt : Nat) (gt : Nat → Int32) (wC : Int32) (h0 : Heap) (n0 : Nat) (Z0 : n0 ≤ h0.size) (hD : own_Bd Z h0 a0 b0 cap n g) (hne : a0 ≠ b0) (hga : n0 ≤ a0) (hgb : n0 ≤ b0) (hT : own_Str Z h0 sa sb nt gt) (hn1 : sa ≠ a0) (hn2 : sb ≠ a0) (hn3 : sa ≠ b0) (hn4 : sb ≠ b0) (hbd : n ≤ cap ∧ n + nt ≤ 70 ∧ cap ≤ 140) (hcp : 0 < cap) (hSC : Sta Z h0 "java/lang/String" "COMPACT_STRINGS" "Z" (.int wC)) (hwC : ¬ wC = (0 : Int32)) :
   own_Met l mN11 jdk_68_method_22_code 3 (some (.object "java/lang/AbstractStringBuilder")) ws ({ frames := 4, cells := 1, slots := 140, locals := 69 } : Room) #[(.ref a0), (.ref sa)] Z h0 (QrmAS Z a0 b0 cap n g sa sb nt gt wC h0 n0) := by
 refine MetFree.of_bodySF (plainFor_of_name pn_AbstractStringBuilder) hisR ?_
 intro p e s m args below meth c s₁ Bd hml0 hP hK
 obtain ⟨rfl, hZ, hh⟩ := hP
 have hml : c.maxLocals = 3 := hml0
 obtain ⟨hx, hby, hown, hnm, X0, e0⟩ := own_start Bd hml0 hh
 have N0 := Fr.nil n0
 have Y := @oY _ _ _ hby D_rmAS
 obtain ⟨P0, in0, pre0⟩ : ∃ P : State → Prop, (∀ tz, oS p e below s₁ (mkF m 0 #[rv a0, rv sa, .unset] []) tz → P tz) ∧ ∀ tz, P tz → Steps p.tables e below (s₁.setTop (entryFrame m #[(.ref a0), (.ref sa)] 3)) tz := ⟨_, fun _ kz => kz, fun tz kz => castTop (by first | (simp [entryFrame, mkF, argsToLocals, Value.category]; done) | rfl) kz⟩
 obtain ⟨_, T1, Lc1, X1, hQ1, st1⟩ := own_virtual (W := 0) (y := mN1) (z := mN1) X0 hx hZ hown (oq hw 76 rfl) (oq hw 77 rfl) (notFace_of_selects (args := #[]) (mvT hZ (oq hw 79 rfl))) (oq hw 79 rfl) (oq hw 78 rfl) (oq hw 80 rfl) (oq hw 1 rfl) (by decide) (rmLen l Z av0 hw [] sa sb nt gt wC h0 n0 Z0 (own_Str.mk hT.E hT.C hT.V hT.A) (by omega) hSC hwC) (by decide) (by decide) hT.E (g := (mkF m 10 #[rv a0, rv sa, .unset] [(.ref sa)])) rfl (by rw [hml]; rfl) (argsL := []) (rest := []) (lenOf pd__I rfl) rfl (Y 3 rfl) rfl e0 (by decide : 0 + 0 ≤ _) (by decide : 0 + 0 ≤ _)
 obtain ⟨rfl, N1q, hh1⟩ := hQ1
 have N1 := Fr.app N0 N1q
 have e1 : T1.heap = h0 := hh1
 obtain ⟨T2, X2, e2, st2⟩ := getF X1 hx hZ hown (host := "") (Or.inl (oq hw 89 rfl)) Via.refl e1 hD.N (g := (mkF m 16 #[rv a0, rv sa, iv (own_n nt)] [(.ref a0), (.ref a0)])) rfl rfl (Y 7 rfl)
 obtain ⟨_, T3, Lc3, X3, hQ3, st3⟩ := own_privateS (W := 0) (y := mN7) X2 hx hZ hown (oq hw 91 rfl) (oq hw 94 rfl) (oq hw 93 rfl) (oq hw 92 rfl) (oq hw 95 rfl) (oq hw 57 rfl) (by decide) (rmEC l Z av0 hw [] a0 b0 cap n g (n + nt) h0 n0 Z0 (own_Bd.mk hD.E hD.C hD.V hD.N hD.A) hne hga hgb ⟨by omega, by omega, by omega⟩) (by decide) (by decide) hD.E (g := (mkF m 21 #[rv a0, rv sa, iv (own_n nt)] [(.int (own_n (n + nt))), (.ref a0)])) rfl (by rw [hml]; rfl) (argsL := [(.int (own_n (n + nt)))]) (rest := []) (lenOf pd__I_V rfl) rfl (Y 10 rfl) rfl e2 (by decide : 0 + 1 ≤ _) (by decide : 0 + 140 ≤ _)
 obtain ⟨rfl, N3q, b3, gn3, K3, Db3, ga3, gb3⟩ := hQ3
 have N3 := Fr.app N1 N3q
 have e3 : T3.heap = T3.heap := rfl
 have ne_a0_b3 : a0 ≠ b3 := own_or gb3 hne (Nat.ne_of_lt ∘ Nat.lt_of_lt_of_le hD.E.lt)
 have ne_sa_b3 : sa ≠ b3 := own_or gb3 hn3 (Nat.ne_of_lt ∘ Nat.lt_of_lt_of_le hT.E.lt)
 have ne_sb_b3 : sb ≠ b3 := own_or gb3 hn4 (Nat.ne_of_lt ∘ Nat.lt_of_lt_of_le hT.A.lt)
 have ge_b3 : n0 ≤ b3 := own_ge gb3 hgb Z0
 have Zk3 : n0 ≤ T3.heap.size := Nat.le_trans Z0 K3.1
 have Kk3 : Keep h0 T3.heap [a0, b0] := (Keep.refl h0 [a0, b0]).trans K3 (allS (Or.inl (List.mem_of_getElem? (i := 0) rfl)) all0)
 obtain ⟨T4, X4, e4, st4⟩ := getF X3 hx hZ hown (host := "") (Or.inl (oq hw 89 rfl)) Via.refl e3 Db3.N (g := (mkF m 26 #[rv a0, rv sa, iv (own_n nt)] [(.ref a0), (.ref a0)])) rfl rfl (Y 13 rfl)
 have f5 := (hT.E.keep K3)
 have f6 := (hT.C.keep K3 (ninS hn1 nin0))
 have f7 := (hT.V.keep K3 (ninS hn1 nin0))
 have f8 := (hT.A.keep K3 (ninS hn2 nin0))
 have f9 := (own_stak hSC K3 (allS (own_exns hD.E) all0))
 obtain ⟨_, T10, Lc10, X10, hQ10, st10⟩ := own_privateS (W := 0) (y := mN10) X4 hx hZ hown (oq hw 96 rfl) (oq hw 99 rfl) (oq hw 98 rfl) (oq hw 97 rfl) (oq hw 100 rfl) (oq hw 57 rfl) (by decide) (rmPS l Z av0 hw [] a0 b3 (own_gr cap (n + nt)) n gn3 sa sb nt gt wC T3.heap n0 Zk3 (own_Bd.mk Db3.E Db3.C Db3.V Db3.N Db3.A) ne_a0_b3 hga ge_b3 (own_Str.mk f5 f6 f7 f8) ne_sb_b3 ⟨own_grge _ _, Nat.lt_of_le_of_lt (own_grlt hbd.2.1 hbd.2.2) (by decide)⟩ f9 hwC) (by decide) (by decide) Db3.E (g := (mkF m 30 #[rv a0, rv sa, iv (own_n nt)] [(.ref sa), (.int (own_n n)), (.ref a0)])) rfl (by rw [hml]; rfl) (argsL := [(.int (own_n n)), (.ref sa)]) (rest := []) (lenOf pd__ILjava_lang_String_V rfl) rfl (Y 15 rfl) rfl e4 (by decide : 1 + 0 ≤ _) (by decide : 140 + 0 ≤ _)
 obtain ⟨rfl, N10q, K10, V10⟩ := hQ10
 have N10 := Fr.app N3 N10q
 have e10 : T10.heap = T10.heap := rfl
 have Zk10 : n0 ≤ T10.heap.size := Nat.le_trans Zk3 K10.1
 have Kk10 : Keep h0 T10.heap [a0, b0] := Kk3.trans K10 (allS (own_kor gb3) all0)
 have f11 := (Db3.N.keep K10 (ninS ne_a0_b3 nin0))
 obtain ⟨T12, X12, e12, st12⟩ := getF X10 hx hZ hown (host := "") (Or.inl (oq hw 89 rfl)) Via.refl e10 f11 (g := (mkF m 35 #[rv a0, rv sa, iv (own_n nt)] [(.ref a0), (.ref a0)])) rfl rfl (Y 18 rfl)
 have f13 := (Db3.E.keep K10)
 obtain ⟨T14, h14, X14, e14, W14, st14⟩ := putF X12 hx hZ hown (host := "") (Or.inl (oq hw 89 rfl)) Via.refl e12 f11 f13 (Or.inl (oq hw 90 rfl)) (oq hw 48 rfl) (ty := .int) (by decide) rfl rfl (g := (mkF m 40 #[rv a0, rv sa, iv (own_n nt)] [(.int (own_n (n + nt))), (.ref a0)])) rfl rfl (Y 21 rfl)
 have N14 := Fr.snoc X14 N10 hga
 have Z14 : n0 ≤ h14.size := Nat.le_trans Zk10 (Nat.le_of_eq W14.size.symm)
 have K14 : Keep h0 h14 [a0, b0] := Kk10.wr W14 (Or.inl (List.mem_of_getElem? (i := 0) rfl))
 have Fw14 := f11.same W14
 have S15 : ∀ tz, oS p e below T14 (mkF m 44 #[rv a0, rv sa, iv (own_n nt)] [(.ref a0)]) tz → P0 tz := fun tz kz => in0 tz (by
  refine XS.aloadN X0.here hx rfl (Y 0 rfl) rfl rfl ?_
  refine XT.ifnonnullYes X0.here hx rfl (pc0 := 1) (pc' := 9) rfl (Y 1 rfl) rfl (by decide) (by decide) ?_
  refine XS.aloadN X0.here hx rfl (Y 2 rfl) rfl rfl ?_
  refine st1 _ ?_
  refine XS.istoreN X1.here hx rfl (Y 4 rfl) rfl (l' := #[rv a0, rv sa, iv (own_n nt)]) rfl ?_
  refine XS.aloadN X1.here hx rfl (Y 5 rfl) rfl rfl ?_
  refine XS.aloadN X1.here hx rfl (Y 6 rfl) rfl rfl ?_
  refine st2 _ ?_
  refine XS.iloadN X2.here hx rfl (Y 8 rfl) rfl ?_
  refine XS.iadd X2.here hx rfl (Y 9 rfl) rfl ?_
  show oS p e below T2 (mkF m 21 #[rv a0, rv sa, iv (own_n nt)] [(.int ((own_n n) + (own_n nt))), (.ref a0)]) _
  rw [own_nplus]
  show oS p e below T2 (mkF m 21 #[rv a0, rv sa, iv (own_n nt)] [(.int (own_n (n + nt))), (.ref a0)]) _
  refine st3 _ ?_
  refine XS.aloadN X3.here hx rfl (Y 11 rfl) rfl rfl ?_
  refine XS.aloadN X3.here hx rfl (Y 12 rfl) rfl rfl ?_
  refine st4 _ ?_
  refine XS.aloadN X4.here hx rfl (Y 14 rfl) rfl rfl ?_
  refine st10 _ ?_
  refine XS.aloadN X10.here hx rfl (Y 16 rfl) rfl rfl ?_
  refine XS.dup X10.here hx rfl (Y 17 rfl) rfl rfl ?_
  refine st12 _ ?_
  show oS p e below T12 (mkF m 38 #[rv a0, rv sa, iv (own_n nt)] [(.int (own_n n)), (.ref a0)]) _
  refine XS.iloadN X12.here hx rfl (Y 19 rfl) rfl ?_
  refine XS.iadd X12.here hx rfl (Y 20 rfl) rfl ?_
  show oS p e below T12 (mkF m 40 #[rv a0, rv sa, iv (own_n nt)] [(.int ((own_n n) + (own_n nt))), (.ref a0)]) _
  rw [own_nplus]
  show oS p e below T12 (mkF m 40 #[rv a0, rv sa, iv (own_n nt)] [(.int (own_n (n + nt))), (.ref a0)]) _
  refine st14 _ ?_
  refine XS.aloadN X14.here hx rfl (Y 22 rfl) rfl rfl ?_
  exact kz)
 obtain ⟨fs, hr, hrun, hended, hW, hsame⟩ := X14.leave (v := some (.ref a0)) (fun h => by rw [Bd.returns] at h; cases h)
 refine ⟨_, _, pre0 _ (S15 _ ?_), hrun, hended, _, _, rfl, ?_, ⟨_, rfl⟩, hW, hsame.mono (by decide) (by decide)⟩
 · jvm_step X14.here [X14.here.top, hx, (Y 23 rfl), X14.method', Bd.returns, Value.isRef, FieldType.isReference]
   first | (intro acts; rw [hr _ acts rfl rfl rfl]) | rw [hr _ _ rfl rfl rfl]
   exact Steps.refl _
 have f16 := (f13.wr W14)
 have f17 := ((Db3.C.keep K10 (ninS ne_a0_b3 nin0)).other W14 (Or.inr (slot_ne (Or.inl (oq hw 64 rfl)) (Or.inl (oq hw 90 rfl)) (by decide) (t := .byte) (t' := .int) (by decide) (by decide))))
 have f18 := ((Db3.V.keep K10 (ninS ne_a0_b3 nin0)).other W14 (Or.inr (slot_ne (Or.inl (oq hw 62 rfl)) (Or.inl (oq hw 90 rfl)) (by decide) (t := (.array .byte)) (t' := .int) (by decide) (by decide))))
 have f19 := (V10.other W14 (Ne.symm ne_a0_b3))
 · show QrmAS Z a0 b0 cap n g sa sb nt gt wC h0 n0 _ T14.heap _
   rw [e14]
   exact ⟨rfl, N14, b3, _, K14, (own_Bd.mk f16 f17 f18 Fw14 f19), fun i hi => (own_cp0 hi).trans (ga3 i (by omega)), fun i hi => own_cp1 hi, gb3⟩
theorem D_rmSA : oL jdk_67_method_7_code [(0, .aload_n 0, 1), (1, .aload_n 1, 1), (2, .invokespecial 29, 3), (5, .pop, 1), (6, .aload_n 0, 1), (7, .areturn, 1)] := by decide +kernel
theorem pn_StringBuilder : plainName "java/lang/StringBuilder" = true := by first | (simp [plainName, overriddenIn]; done) | decide +kernel
theorem pd__Ljava_lang_String_Ljava_lang_AbstractStringBuilder_ : parseMethodDescriptor "(Ljava/lang/String;)Ljava/lang/AbstractStringBuilder;" = some ⟨[(.object "java/lang/String")], some (.object "java/lang/AbstractStringBuilder")⟩ := by decide +kernel
def QrmSA (Z : State) (a0 : Addr) (b0 : Addr) (cap : Nat) (n : Nat) (g : Nat → Int32) (sa : Addr) (sb : Addr) (nt : Nat) (gt : Nat → Int32) (wC : Int32) (h0 : Heap) (n0 : Nat) (v : Option Value) (h : Heap) (L : List Loc) : Prop := v = some (.ref a0) ∧ Fr n0 L ∧ ∃ (b : Addr) (gn : Nat → Int32), Keep h0 h [a0, b0] ∧ own_Bd Z h a0 b (own_gr cap (n + nt)) (n + nt) gn ∧ (∀ i, i < n → gn i = g i) ∧ (∀ i, i < nt → gn (n + i) = gt i) ∧ (b = b0 ∨ h0.size ≤ b)
theorem rmSA (l : Launch) (Z : State) (av0 : Array Value) (hw : ∀ d ∈ tables_1, d.before av0 Z = true) (ws : List Jvm.Cond) (a0 : Addr) (b0 : Addr) (cap : Nat) (n : Nat) (g : Nat → Int32) (sa : Addr) (sb : Addr) (nt : Nat) (gt : Nat → Int32) (wC : Int32) (h0 : Heap) (n0 : Nat) (Z0 : n0 ≤ h0.size) (hD : own_Bd Z h0 a0 b0 cap n g) (hne : a0 ≠ b0) (hga : n0 ≤ a0) (hgb : n0 ≤ b0) (hT : own_Str Z h0 sa sb nt gt) (hn1 : sa ≠ a0) (hn2 : sb ≠ a0) (hn3 : sa ≠ b0) (hn4 : sb ≠ b0) (hbd : n ≤ cap ∧ n + nt ≤ 70 ∧ cap ≤ 140) (hcp : 0 < cap) (hSC : Sta Z h0 "java/lang/String" "COMPACT_STRINGS" "Z" (.int wC)) (hwC : ¬ wC = (0 : Int32)) :
   own_Met l mN12 jdk_67_method_7_code 2 (some (.object "java/lang/StringBuilder")) ws ({ frames := 5, cells := 1, slots := 140, locals := 83 } : Room) #[(.ref a0), (.ref sa)] Z h0 (QrmSA Z a0 b0 cap n g sa sb nt gt wC h0 n0) := by
 refine MetFree.of_bodySF (plainFor_of_name pn_StringBuilder) hisR ?_
 intro p e s m args below meth c s₁ Bd hml0 hP hK
 obtain ⟨rfl, hZ, hh⟩ := hP
 have hml : c.maxLocals = 2 := hml0
 obtain ⟨hx, hby, hown, hnm, X0, e0⟩ := own_start Bd hml0 hh
 have N0 := Fr.nil n0
 have Y := @oY _ _ _ hby D_rmSA
 obtain ⟨P0, in0, pre0⟩ : ∃ P : State → Prop, (∀ tz, oS p e below s₁ (mkF m 0 #[rv a0, rv sa] []) tz → P tz) ∧ ∀ tz, P tz → Steps p.tables e below (s₁.setTop (entryFrame m #[(.ref a0), (.ref sa)] 2)) tz := ⟨_, fun _ kz => kz, fun tz kz => castTop (by first | (simp [entryFrame, mkF, argsToLocals, Value.category]; done) | rfl) kz⟩
 obtain ⟨_, T1, Lc1, X1, hQ1, st1⟩ := own_super (W := 0) (y := mN11) (z := mN7) (K := "java/lang/StringBuilder") X0 hx hZ hown (oq hw 71 rfl) rfl (oq hw 94 rfl) (oq hw 72 rfl) (oq hw 73 rfl) (oq hw 75 rfl) (oq hw 57 rfl) (by decide) (by decide) (rmAS l Z av0 hw [] a0 b0 cap n g sa sb nt gt wC h0 n0 Z0 hD hne hga hgb hT hn1 hn2 hn3 hn4 hbd hcp hSC hwC) (by decide) (by decide) (Ins.self hD.E) (g := (mkF m 2 #[rv a0, rv sa] [(.ref sa), (.ref a0)])) rfl (by rw [hml]; rfl) (argsL := [(.ref sa)]) (rest := []) (lenOf pd__Ljava_lang_String_Ljava_lang_AbstractStringBuilder_ rfl) rfl (Y 2 rfl) rfl e0 (by decide : 0 + 1 ≤ _) (by decide : 0 + 140 ≤ _)
 obtain ⟨rfl, N1q, b1, gn1, K1, Db1, ga1, gc1, gb1⟩ := hQ1
 have N1 := Fr.app N0 N1q
 have e1 : T1.heap = T1.heap := rfl
 have ge_b1 : n0 ≤ b1 := own_ge gb1 hgb Z0
 have Zk1 : n0 ≤ T1.heap.size := Nat.le_trans Z0 K1.1
 have Kk1 : Keep h0 T1.heap [a0, b0] := (Keep.refl h0 [a0, b0]).trans K1 (allS (Or.inl (List.mem_of_getElem? (i := 0) rfl)) (allS (Or.inl (List.mem_of_getElem? (i := 1) rfl)) all0))
 have S2 : ∀ tz, oS p e below T1 (mkF m 7 #[rv a0, rv sa] [(.ref a0)]) tz → P0 tz := fun tz kz => in0 tz (by
  refine XS.aloadN X0.here hx rfl (Y 0 rfl) rfl rfl ?_
  refine XS.aloadN X0.here hx rfl (Y 1 rfl) rfl rfl ?_
  refine st1 _ ?_
  refine XT.pop X1.here hx rfl (Y 3 rfl) rfl rfl ?_
  refine XS.aloadN X1.here hx rfl (Y 4 rfl) rfl rfl ?_
  exact kz)
 obtain ⟨fs, hr, hrun, hended, hW, hsame⟩ := X1.leave (v := some (.ref a0)) (fun h => by rw [Bd.returns] at h; cases h)
 refine ⟨_, _, pre0 _ (S2 _ ?_), hrun, hended, _, _, rfl, ?_, ⟨_, rfl⟩, hW, hsame.mono (by decide) (by decide)⟩
 · jvm_step X1.here [X1.here.top, hx, (Y 5 rfl), X1.method', Bd.returns, Value.isRef, FieldType.isReference]
   first | (intro acts; rw [hr _ acts rfl rfl rfl]) | rw [hr _ _ rfl rfl rfl]
   exact Steps.refl _
 · show QrmSA Z a0 b0 cap n g sa sb nt gt wC h0 n0 _ T1.heap _
   rw [e1]
   exact ⟨rfl, N1, b1, _, Kk1, Db1, ga1, gc1, gb1⟩
theorem D_rmAI : oL jdk_68_method_2_code [(0, .aload_n 0, 1), (1, .invokespecial 3, 3), (4, .getstatic 18, 3), (7, .ifCond .eq 18, 3), (10, .aload_n 0, 1), (11, .iload_n 1, 1), (12, .newarray .byte, 2), (14, .putfield 15, 3), (17, .aload_n 0, 1), (18, .iconst 0, 1), (19, .putfield 22, 3), (22, .goto 16, 3), (38, .return_, 1)] := by decide +kernel
def QrmAI (Z : State) (a0 : Addr) (wC : Int32) (h0 : Heap) (n0 : Nat) (v : Option Value) (h : Heap) (L : List Loc) : Prop := v = none ∧ Fr n0 L ∧ ∃ b : Addr, Keep h0 h [a0] ∧ own_Bd Z h a0 b 16 0 (fun _ => 0) ∧ h0.size ≤ b
theorem rmAI (l : Launch) (Z : State) (av0 : Array Value) (hw : ∀ d ∈ tables_1, d.before av0 Z = true) (ws : List Jvm.Cond) (a0 : Addr) (wC : Int32) (h0 : Heap) (n0 : Nat) (Z0 : n0 ≤ h0.size) (hE : Exa Z h0 a0 "java/lang/StringBuilder") (hV : Fld Z h0 a0 "java/lang/AbstractStringBuilder" "value" "[B" .null) (hCo : Fld Z h0 a0 "java/lang/AbstractStringBuilder" "coder" "B" (.int (0 : Int32))) (hCn : Fld Z h0 a0 "java/lang/AbstractStringBuilder" "count" "I" (.int (0 : Int32))) (hga : n0 ≤ a0) (hSC : Sta Z h0 "java/lang/String" "COMPACT_STRINGS" "Z" (.int wC)) (hwC : ¬ wC = (0 : Int32)) :
   own_Met l mN13 jdk_68_method_2_code 2 none ws ({ frames := 1, cells := 1, slots := 16, locals := 12 } : Room) #[(.ref a0), (.int 16)] Z h0 (QrmAI Z a0 wC h0 n0) := by
 refine MetFree.of_bodySF (plainFor_of_name pn_AbstractStringBuilder) hisR ?_
 intro p e s m args below meth c s₁ Bd hml0 hP hK
 obtain ⟨rfl, hZ, hh⟩ := hP
 have hml : c.maxLocals = 2 := hml0
 obtain ⟨hx, hby, hown, hnm, X0, e0⟩ := own_start Bd hml0 hh
 have N0 := Fr.nil n0
 have Y := @oY _ _ _ hby D_rmAI
 obtain ⟨P0, in0, pre0⟩ : ∃ P : State → Prop, (∀ tz, oS p e below s₁ (mkF m 0 #[rv a0, iv 16] []) tz → P tz) ∧ ∀ tz, P tz → Steps p.tables e below (s₁.setTop (entryFrame m #[(.ref a0), (.int 16)] 2)) tz := ⟨_, fun _ kz => kz, fun tz kz => castTop (by first | (simp [entryFrame, mkF, argsToLocals, Value.category]; done) | rfl) kz⟩
 obtain ⟨T1, X1, e1, st1⟩ := initO X0 hx hZ hown (oq hw 59 rfl) (oq hw 15 rfl) (oq hw 16 rfl) e0 (g := (mkF m 1 #[rv a0, iv 16] [(.ref a0)])) rfl (by rw [hml]; rfl) rfl (Y 1 rfl) (by decide) (W := 0) (by show 2 * 0 + _ ≤ _; exact Nat.le_of_eq rfl) (by decide)
 obtain ⟨T2, X2, e2, st2⟩ := getS2 X1 hx hZ hown (host := "") (Or.inl (oq hw 60 rfl)) Via.refl e1 hSC (g := (mkF m 4 #[rv a0, iv 16] [])) rfl (Y 2 rfl)
 obtain ⟨T3, h3, k3, X3, e3, E3, A3, st3⟩ := newP X2 hx hZ (oq hw 3 rfl) e2 (g := (mkF m 12 #[rv a0, iv 16] [(.int 16), (.ref a0)])) rfl (Y 6 rfl) rfl (by decide) (cap := 16) (by decide) (by decide) (by decide) (by decide)
 obtain ⟨b3, g3⟩ : ∃ z, z = h0.size := ⟨_, rfl⟩
 rw [← g3] at A3 st3
 have ne_a0_b3 : a0 ≠ b3 := Nat.ne_of_lt (Nat.lt_of_lt_of_le hE.lt (Nat.le_of_eq g3.symm))
 have ge_b3 : n0 ≤ b3 := Nat.le_trans Z0 (Nat.le_of_eq g3.symm)
 have sz_b3 : h0.size ≤ b3 := Nat.le_of_eq g3.symm
 have Z3 : n0 ≤ h3.size := Nat.le_trans Z0 E3.1
 have K3 : Keep h0 h3 [a0] := (Keep.refl h0 [a0]).ext E3
 have V3 : own_Ab Z h3 b3 16 (fun _ => 0) := own_newB 16 (by omega) A3
 have f4 := (hV.ext E3)
 have f5 := (hE.ext E3)
 obtain ⟨T6, h6, X6, e6, W6, st6⟩ := putF X3 hx hZ hown (host := "") (Or.inl (oq hw 61 rfl)) Via.refl e3 f4 f5 (Or.inl (oq hw 62 rfl)) (oq hw 48 rfl) (ty := (.array .byte)) (by decide) rfl rfl (g := (mkF m 14 #[rv a0, iv 16] [(.ref b3), (.ref a0)])) rfl rfl (Y 7 rfl)
 have N6 := Fr.snoc X6 N0 hga
 have Z6 : n0 ≤ h6.size := Nat.le_trans Z3 (Nat.le_of_eq W6.size.symm)
 have K6 : Keep h0 h6 [a0] := K3.wr W6 (Or.inl (List.mem_of_getElem? (i := 0) rfl))
 have Fw6 := f4.same W6
 have f7 := ((hCo.ext E3).other W6 (Or.inr (slot_ne (Or.inl (oq hw 64 rfl)) (Or.inl (oq hw 62 rfl)) (by decide) (t := .byte) (t' := (.array .byte)) (by decide) (by decide))))
 have f8 := (f5.wr W6)
 obtain ⟨T9, h9, X9, e9, W9, st9⟩ := putFN X6 hx hZ hown (oq hw 63 rfl) Via.refl e6 f7 f8 (Or.inl (oq hw 64 rfl)) (oq hw 48 rfl) (ty := .byte) (v' := (.int 0)) (by decide) rfl rfl (g := (mkF m 19 #[rv a0, iv 16] [(.int 0), (.ref a0)])) rfl rfl (Y 10 rfl)
 have N9 := Fr.snoc X9 N6 hga
 have Z9 : n0 ≤ h9.size := Nat.le_trans Z6 (Nat.le_of_eq W9.size.symm)
 have K9 : Keep h0 h9 [a0] := K6.wr W9 (Or.inl (List.mem_of_getElem? (i := 0) rfl))
 have Fw9 := f7.same W9
 have S10 : ∀ tz, oS p e below T9 (mkF m 38 #[rv a0, iv 16] []) tz → P0 tz := fun tz kz => in0 tz (by
  refine XS.aloadN X0.here hx rfl (Y 0 rfl) rfl rfl ?_
  refine st1 _ ?_
  refine st2 _ ?_
  refine XS.ifNo X2.here hx rfl (Y 3 rfl) rfl (XT.i0_eq_f hwC) ?_
  refine XS.aloadN X2.here hx rfl (Y 4 rfl) rfl rfl ?_
  refine XS.iloadN X2.here hx rfl (Y 5 rfl) rfl ?_
  refine st3 _ ?_
  refine st6 _ ?_
  refine XS.aloadN X6.here hx rfl (Y 8 rfl) rfl rfl ?_
  refine XT.iconstV X6.here hx rfl (0 : Int32) (Y 9 rfl) (by decide) ?_
  show oS p e below T6 (mkF m 19 #[rv a0, iv 16] [(.int 0), (.ref a0)]) _
  refine st9 _ ?_
  refine XS.goto X9.here hx rfl (pc0 := 22) (pc' := 38) rfl (Y 11 rfl) (by decide) (by decide) ?_
  exact kz)
 obtain ⟨fs, hr, hrun, hended, hW, hsame⟩ := X9.leave (v := none) (fun _ => rfl)
 refine ⟨_, _, pre0 _ (S10 _ ?_), hrun, hended, _, _, rfl, ?_, ⟨_, rfl⟩, hW, hsame.mono (by decide) (by decide)⟩
 · exact X9.returnOut hx Bd.returns (Y 12 rfl) hr
 have f11 := (f8.wr W9)
 have f12 := (Fw6.other W9 (Or.inr (slot_ne (Or.inl (oq hw 62 rfl)) (Or.inl (oq hw 64 rfl)) (by decide) (t := (.array .byte)) (t' := .byte) (by decide) (by decide))))
 have f13 := (((hCn.ext E3).other W6 (Or.inr (slot_ne (Or.inl (oq hw 90 rfl)) (Or.inl (oq hw 62 rfl)) (by decide) (t := .int) (t' := (.array .byte)) (by decide) (by decide)))).other W9 (Or.inr (slot_ne (Or.inl (oq hw 90 rfl)) (Or.inl (oq hw 64 rfl)) (by decide) (t := .int) (t' := .byte) (by decide) (by decide))))
 have f14 := ((V3.other W6 (Ne.symm ne_a0_b3)).other W9 (Ne.symm ne_a0_b3))
 · show QrmAI Z a0 wC h0 n0 _ T9.heap _
   rw [e9]
   exact ⟨rfl, N9, b3, K9, (own_Bd.mk f11 Fw9 f12 f13 f14), sz_b3⟩
theorem D_rmSI : oL jdk_67_method_1_code [(0, .aload_n 0, 1), (1, .bipush 16, 2), (3, .invokespecial 1, 3), (6, .return_, 1)] := by decide +kernel
def QrmSI (Z : State) (a0 : Addr) (wC : Int32) (h0 : Heap) (n0 : Nat) (v : Option Value) (h : Heap) (L : List Loc) : Prop := v = none ∧ Fr n0 L ∧ ∃ b : Addr, Keep h0 h [a0] ∧ own_Bd Z h a0 b 16 0 (fun _ => 0) ∧ h0.size ≤ b
theorem rmSI (l : Launch) (Z : State) (av0 : Array Value) (hw : ∀ d ∈ tables_1, d.before av0 Z = true) (ws : List Jvm.Cond) (a0 : Addr) (wC : Int32) (h0 : Heap) (n0 : Nat) (Z0 : n0 ≤ h0.size) (hE : Exa Z h0 a0 "java/lang/StringBuilder") (hV : Fld Z h0 a0 "java/lang/AbstractStringBuilder" "value" "[B" .null) (hCo : Fld Z h0 a0 "java/lang/AbstractStringBuilder" "coder" "B" (.int (0 : Int32))) (hCn : Fld Z h0 a0 "java/lang/AbstractStringBuilder" "count" "I" (.int (0 : Int32))) (hga : n0 ≤ a0) (hSC : Sta Z h0 "java/lang/String" "COMPACT_STRINGS" "Z" (.int wC)) (hwC : ¬ wC = (0 : Int32)) :
   own_Met l mN14 jdk_67_method_1_code 1 none ws ({ frames := 2, cells := 1, slots := 16, locals := 25 } : Room) #[(.ref a0)] Z h0 (QrmSI Z a0 wC h0 n0) := by
 refine MetFree.of_bodySF (plainFor_of_name pn_StringBuilder) hisR ?_
 intro p e s m args below meth c s₁ Bd hml0 hP hK
 obtain ⟨rfl, hZ, hh⟩ := hP
 have hml : c.maxLocals = 1 := hml0
 obtain ⟨hx, hby, hown, hnm, X0, e0⟩ := own_start Bd hml0 hh
 have N0 := Fr.nil n0
 have Y := @oY _ _ _ hby D_rmSI
 obtain ⟨P0, in0, pre0⟩ : ∃ P : State → Prop, (∀ tz, oS p e below s₁ (mkF m 0 #[rv a0] []) tz → P tz) ∧ ∀ tz, P tz → Steps p.tables e below (s₁.setTop (entryFrame m #[(.ref a0)] 1)) tz := ⟨_, fun _ kz => kz, fun tz kz => castTop (by first | (simp [entryFrame, mkF, argsToLocals, Value.category]; done) | rfl) kz⟩
 obtain ⟨_, T1, Lc1, X1, hQ1, st1⟩ := own_special (W := 0) (y := mN13) X0 hx hZ rfl hown (oq hw 53 rfl) (oq hw 54 rfl) (oq hw 58 rfl) (oq hw 57 rfl) (by decide) (rmAI l Z av0 hw [] a0 wC h0 n0 Z0 hE hV hCo hCn hga hSC hwC) (by decide) (by decide) (g := (mkF m 3 #[rv a0] [(.int 16), (.ref a0)])) rfl (by rw [hml]; rfl) (a := a0) (argsL := [(.int 16)]) (rest := []) (lenOf pd__I_V rfl) rfl (Y 2 rfl) rfl e0 (by decide : 0 + 1 ≤ _) (by decide : 0 + 16 ≤ _)
 obtain ⟨rfl, N1q, b1, K1, Db1, gb1⟩ := hQ1
 have N1 := Fr.app N0 N1q
 have e1 : T1.heap = T1.heap := rfl
 have Zk1 : n0 ≤ T1.heap.size := Nat.le_trans Z0 K1.1
 have Kk1 : Keep h0 T1.heap [a0] := (Keep.refl h0 [a0]).trans K1 (allS (Or.inl (List.mem_of_getElem? (i := 0) rfl)) all0)
 have S2 : ∀ tz, oS p e below T1 (mkF m 6 #[rv a0] []) tz → P0 tz := fun tz kz => in0 tz (by
  refine XS.aloadN X0.here hx rfl (Y 0 rfl) rfl rfl ?_
  refine XT.bipushV X0.here hx rfl (16 : Int32) (Y 1 rfl) (by decide) ?_
  refine st1 _ ?_
  exact kz)
 obtain ⟨fs, hr, hrun, hended, hW, hsame⟩ := X1.leave (v := none) (fun _ => rfl)
 refine ⟨_, _, pre0 _ (S2 _ ?_), hrun, hended, _, _, rfl, ?_, ⟨_, rfl⟩, hW, hsame.mono (by decide) (by decide)⟩
 · exact X1.returnOut hx Bd.returns (Y 3 rfl) hr
 · show QrmSI Z a0 wC h0 n0 _ T1.heap _
   rw [e1]
   exact ⟨rfl, N1, b1, Kk1, Db1, gb1⟩
theorem D_rmIL : oL jdk_68_method_68_code [(0, .getstatic 18, 3), (3, .ifCond .eq 14, 3), (6, .aload_n 0, 1), (7, .getfield 22, 3), (10, .ifCond .ne 7, 3), (13, .iconst 1, 1), (14, .goto 4, 3), (18, .ireturn, 1)] := by decide +kernel
def QrmIL (Z : State) (a0 : Addr) (b0 : Addr) (cap : Nat) (n : Nat) (g : Nat → Int32) (wC : Int32) (h0 : Heap) (n0 : Nat) (v : Option Value) (h : Heap) (L : List Loc) : Prop := v = some (.int (1 : Int32)) ∧ Fr n0 L ∧ h = h0
theorem rmIL (l : Launch) (Z : State) (av0 : Array Value) (hw : ∀ d ∈ tables_1, d.before av0 Z = true) (ws : List Jvm.Cond) (a0 : Addr) (b0 : Addr) (cap : Nat) (n : Nat) (g : Nat → Int32) (wC : Int32) (h0 : Heap) (n0 : Nat) (Z0 : n0 ≤ h0.size) (hD : own_Bd Z h0 a0 b0 cap n g) (hSC : Sta Z h0 "java/lang/String" "COMPACT_STRINGS" "Z" (.int wC)) (hwC : ¬ wC = (0 : Int32)) :
   own_Met l mN15 jdk_68_method_68_code 1 (some .boolean) ws ({ frames := 0, cells := 0, slots := 0, locals := 0 } : Room) #[(.ref a0)] Z h0 (QrmIL Z a0 b0 cap n g wC h0 n0) := by
 refine MetFree.of_bodySF (plainFor_of_name pn_AbstractStringBuilder) hisR ?_
 intro p e s m args below meth c s₁ Bd hml0 hP hK
 obtain ⟨rfl, hZ, hh⟩ := hP
 have hml : c.maxLocals = 1 := hml0
 obtain ⟨hx, hby, hown, hnm, X0, e0⟩ := own_start Bd hml0 hh
 have N0 := Fr.nil n0
 have Y := @oY _ _ _ hby D_rmIL
 obtain ⟨P0, in0, pre0⟩ : ∃ P : State → Prop, (∀ tz, oS p e below s₁ (mkF m 0 #[rv a0] []) tz → P tz) ∧ ∀ tz, P tz → Steps p.tables e below (s₁.setTop (entryFrame m #[(.ref a0)] 1)) tz := ⟨_, fun _ kz => kz, fun tz kz => castTop (by first | (simp [entryFrame, mkF, argsToLocals, Value.category]; done) | rfl) kz⟩
 obtain ⟨T1, X1, e1, st1⟩ := getS2 X0 hx hZ hown (host := "") (Or.inl (oq hw 60 rfl)) Via.refl e0 hSC (g := (mkF m 0 #[rv a0] [])) rfl (Y 0 rfl)
 obtain ⟨T2, X2, e2, st2⟩ := getF X1 hx hZ hown (host := "") (Or.inl (oq hw 63 rfl)) Via.refl e1 hD.C (g := (mkF m 7 #[rv a0] [(.ref a0)])) rfl rfl (Y 3 rfl)
 have S3 : ∀ tz, oS p e below T2 (mkF m 18 #[rv a0] [(.int 1)]) tz → P0 tz := fun tz kz => in0 tz (by
  refine st1 _ ?_
  refine XS.ifNo X1.here hx rfl (Y 1 rfl) rfl (XT.i0_eq_f hwC) ?_
  refine XS.aloadN X1.here hx rfl (Y 2 rfl) rfl rfl ?_
  refine st2 _ ?_
  refine XS.ifNo X2.here hx rfl (Y 4 rfl) rfl (XT.i0_ne_f (by decide)) ?_
  refine XT.iconstV X2.here hx rfl (1 : Int32) (Y 5 rfl) (by decide) ?_
  refine XS.goto X2.here hx rfl (pc0 := 14) (pc' := 18) rfl (Y 6 rfl) (by decide) (by decide) ?_
  exact kz)
 obtain ⟨fs, hr, hrun, hended, hW, hsame⟩ := X2.leave (v := some (.int 1)) (fun h => by rw [Bd.returns] at h; cases h)
 refine ⟨_, _, pre0 _ (S3 _ ?_), hrun, hended, _, _, rfl, ?_, ⟨_, rfl⟩, hW, hsame.mono (by decide) (by decide)⟩
 · exact retN X2 hx (t := .boolean) Bd.returns (by simp) (Y 7 rfl) hr
 · show QrmIL Z a0 b0 cap n g wC h0 n0 _ T2.heap _
   rw [e2]
   exact ⟨rfl, N0, rfl⟩
theorem D_rmGV : oL jdk_68_method_64_code [(0, .aload_n 0, 1), (1, .getfield 15, 3), (4, .areturn, 1)] := by decide +kernel
def QrmGV (Z : State) (a0 : Addr) (b0 : Addr) (cap : Nat) (n : Nat) (g : Nat → Int32) (h0 : Heap) (n0 : Nat) (v : Option Value) (h : Heap) (L : List Loc) : Prop := v = some (.ref b0) ∧ Fr n0 L ∧ h = h0
theorem rmGV (l : Launch) (Z : State) (av0 : Array Value) (hw : ∀ d ∈ tables_1, d.before av0 Z = true) (ws : List Jvm.Cond) (a0 : Addr) (b0 : Addr) (cap : Nat) (n : Nat) (g : Nat → Int32) (h0 : Heap) (n0 : Nat) (Z0 : n0 ≤ h0.size) (hD : own_Bd Z h0 a0 b0 cap n g) :
   own_Met l mN16 jdk_68_method_64_code 1 (some (.array .byte)) ws ({ frames := 0, cells := 0, slots := 0, locals := 0 } : Room) #[(.ref a0)] Z h0 (QrmGV Z a0 b0 cap n g h0 n0) := by
 refine MetFree.of_bodySF (plainFor_of_name pn_AbstractStringBuilder) hisR ?_
 intro p e s m args below meth c s₁ Bd hml0 hP hK
 obtain ⟨rfl, hZ, hh⟩ := hP
 have hml : c.maxLocals = 1 := hml0
 obtain ⟨hx, hby, hown, hnm, X0, e0⟩ := own_start Bd hml0 hh
 have N0 := Fr.nil n0
 have Y := @oY _ _ _ hby D_rmGV
 obtain ⟨P0, in0, pre0⟩ : ∃ P : State → Prop, (∀ tz, oS p e below s₁ (mkF m 0 #[rv a0] []) tz → P tz) ∧ ∀ tz, P tz → Steps p.tables e below (s₁.setTop (entryFrame m #[(.ref a0)] 1)) tz := ⟨_, fun _ kz => kz, fun tz kz => castTop (by first | (simp [entryFrame, mkF, argsToLocals, Value.category]; done) | rfl) kz⟩
 obtain ⟨T1, X1, e1, st1⟩ := getF X0 hx hZ hown (host := "") (Or.inl (oq hw 61 rfl)) Via.refl e0 hD.V (g := (mkF m 1 #[rv a0] [(.ref a0)])) rfl rfl (Y 1 rfl)
 have S2 : ∀ tz, oS p e below T1 (mkF m 4 #[rv a0] [(.ref b0)]) tz → P0 tz := fun tz kz => in0 tz (by
  refine XS.aloadN X0.here hx rfl (Y 0 rfl) rfl rfl ?_
  refine st1 _ ?_
  exact kz)
 obtain ⟨fs, hr, hrun, hended, hW, hsame⟩ := X1.leave (v := some (.ref b0)) (fun h => by rw [Bd.returns] at h; cases h)
 refine ⟨_, _, pre0 _ (S2 _ ?_), hrun, hended, _, _, rfl, ?_, ⟨_, rfl⟩, hW, hsame.mono (by decide) (by decide)⟩
 · jvm_step X1.here [X1.here.top, hx, (Y 2 rfl), X1.method', Bd.returns, Value.isRef, FieldType.isReference]
   first | (intro acts; rw [hr _ acts rfl rfl rfl]) | rw [hr _ _ rfl rfl rfl]
   exact Steps.refl _
 · show QrmGV Z a0 b0 cap n g h0 n0 _ T1.heap _
   rw [e1]
   exact ⟨rfl, N0, rfl⟩
theorem D_rmAL : oL jdk_68_method_6_code [(0, .aload_n 0, 1), (1, .getfield 79, 3), (4, .ireturn, 1)] := by decide +kernel
def QrmAL (Z : State) (a0 : Addr) (b0 : Addr) (cap : Nat) (n : Nat) (g : Nat → Int32) (h0 : Heap) (n0 : Nat) (v : Option Value) (h : Heap) (L : List Loc) : Prop := v = some (.int (own_n n)) ∧ Fr n0 L ∧ h = h0
theorem rmAL (l : Launch) (Z : State) (av0 : Array Value) (hw : ∀ d ∈ tables_1, d.before av0 Z = true) (ws : List Jvm.Cond) (a0 : Addr) (b0 : Addr) (cap : Nat) (n : Nat) (g : Nat → Int32) (h0 : Heap) (n0 : Nat) (Z0 : n0 ≤ h0.size) (hD : own_Bd Z h0 a0 b0 cap n g) :
   own_Met l mN17 jdk_68_method_6_code 1 (some .int) ws ({ frames := 0, cells := 0, slots := 0, locals := 0 } : Room) #[(.ref a0)] Z h0 (QrmAL Z a0 b0 cap n g h0 n0) := by
 refine MetFree.of_bodySF (plainFor_of_name pn_AbstractStringBuilder) hisR ?_
 intro p e s m args below meth c s₁ Bd hml0 hP hK
 obtain ⟨rfl, hZ, hh⟩ := hP
 have hml : c.maxLocals = 1 := hml0
 obtain ⟨hx, hby, hown, hnm, X0, e0⟩ := own_start Bd hml0 hh
 have N0 := Fr.nil n0
 have Y := @oY _ _ _ hby D_rmAL
 obtain ⟨P0, in0, pre0⟩ : ∃ P : State → Prop, (∀ tz, oS p e below s₁ (mkF m 0 #[rv a0] []) tz → P tz) ∧ ∀ tz, P tz → Steps p.tables e below (s₁.setTop (entryFrame m #[(.ref a0)] 1)) tz := ⟨_, fun _ kz => kz, fun tz kz => castTop (by first | (simp [entryFrame, mkF, argsToLocals, Value.category]; done) | rfl) kz⟩
 obtain ⟨T1, X1, e1, st1⟩ := getF X0 hx hZ hown (host := "") (Or.inl (oq hw 89 rfl)) Via.refl e0 hD.N (g := (mkF m 1 #[rv a0] [(.ref a0)])) rfl rfl (Y 1 rfl)
 have S2 : ∀ tz, oS p e below T1 (mkF m 4 #[rv a0] [(.int (own_n n))]) tz → P0 tz := fun tz kz => in0 tz (by
  refine XS.aloadN X0.here hx rfl (Y 0 rfl) rfl rfl ?_
  refine st1 _ ?_
  exact kz)
 obtain ⟨fs, hr, hrun, hended, hW, hsame⟩ := X1.leave (v := some (.int (own_n n))) (fun h => by rw [Bd.returns] at h; cases h)
 refine ⟨_, _, pre0 _ (S2 _ ?_), hrun, hended, _, _, rfl, ?_, ⟨_, rfl⟩, hW, hsame.mono (by decide) (by decide)⟩
 · exact retI X1 hx Bd.returns (Y 2 rfl) hr
 · show QrmAL Z a0 b0 cap n g h0 n0 _ T1.heap _
   rw [e1]
   exact ⟨rfl, N0, rfl⟩
theorem D_rmSL : oL jdk_67_method_93_code [(0, .aload_n 0, 1), (1, .invokespecial 343, 3), (4, .ireturn, 1)] := by decide +kernel
def QrmSL (Z : State) (a0 : Addr) (b0 : Addr) (cap : Nat) (n : Nat) (g : Nat → Int32) (h0 : Heap) (n0 : Nat) (v : Option Value) (h : Heap) (L : List Loc) : Prop := v = some (.int (own_n n)) ∧ Fr n0 L ∧ h = h0
theorem rmSL (l : Launch) (Z : State) (av0 : Array Value) (hw : ∀ d ∈ tables_1, d.before av0 Z = true) (ws : List Jvm.Cond) (a0 : Addr) (b0 : Addr) (cap : Nat) (n : Nat) (g : Nat → Int32) (h0 : Heap) (n0 : Nat) (Z0 : n0 ≤ h0.size) (hD : own_Bd Z h0 a0 b0 cap n g) :
   own_Met l mN18 jdk_67_method_93_code 1 (some .int) ws ({ frames := 1, cells := 0, slots := 0, locals := 12 } : Room) #[(.ref a0)] Z h0 (QrmSL Z a0 b0 cap n g h0 n0) := by
 refine MetFree.of_bodySF (plainFor_of_name pn_StringBuilder) hisR ?_
 intro p e s m args below meth c s₁ Bd hml0 hP hK
 obtain ⟨rfl, hZ, hh⟩ := hP
 have hml : c.maxLocals = 1 := hml0
 obtain ⟨hx, hby, hown, hnm, X0, e0⟩ := own_start Bd hml0 hh
 have N0 := Fr.nil n0
 have Y := @oY _ _ _ hby D_rmSL
 obtain ⟨P0, in0, pre0⟩ : ∃ P : State → Prop, (∀ tz, oS p e below s₁ (mkF m 0 #[rv a0] []) tz → P tz) ∧ ∀ tz, P tz → Steps p.tables e below (s₁.setTop (entryFrame m #[(.ref a0)] 1)) tz := ⟨_, fun _ kz => kz, fun tz kz => castTop (by first | (simp [entryFrame, mkF, argsToLocals, Value.category]; done) | rfl) kz⟩
 obtain ⟨_, T1, Lc1, X1, hQ1, st1⟩ := own_super (W := 0) (y := mN17) (z := mN7) (K := "java/lang/StringBuilder") X0 hx hZ hown (oq hw 208 rfl) rfl (oq hw 94 rfl) (oq hw 204 rfl) (oq hw 73 rfl) (oq hw 209 rfl) (oq hw 57 rfl) (by decide) (by decide) (rmAL l Z av0 hw [] a0 b0 cap n g h0 n0 Z0 (own_Bd.mk hD.E hD.C hD.V hD.N hD.A) ) (by decide) (by decide) (Ins.self hD.E) (g := (mkF m 1 #[rv a0] [(.ref a0)])) rfl (by rw [hml]; rfl) (argsL := []) (rest := []) (lenOf pd__I rfl) rfl (Y 1 rfl) rfl e0 (by decide : 0 + 0 ≤ _) (by decide : 0 + 0 ≤ _)
 obtain ⟨rfl, N1q, hh1⟩ := hQ1
 have N1 := Fr.app N0 N1q
 have e1 : T1.heap = h0 := hh1
 have S2 : ∀ tz, oS p e below T1 (mkF m 4 #[rv a0] [(.int (own_n n))]) tz → P0 tz := fun tz kz => in0 tz (by
  refine XS.aloadN X0.here hx rfl (Y 0 rfl) rfl rfl ?_
  refine st1 _ ?_
  exact kz)
 obtain ⟨fs, hr, hrun, hended, hW, hsame⟩ := X1.leave (v := some (.int (own_n n))) (fun h => by rw [Bd.returns] at h; cases h)
 refine ⟨_, _, pre0 _ (S2 _ ?_), hrun, hended, _, _, rfl, ?_, ⟨_, rfl⟩, hW, hsame.mono (by decide) (by decide)⟩
 · exact retI X1 hx Bd.returns (Y 2 rfl) hr
 · show QrmSL Z a0 b0 cap n g h0 n0 _ T1.heap _
   rw [e1]
   exact ⟨rfl, N1, rfl⟩
theorem D_rmCL : oL jdk_65_method_131_code [(0, .iload_n 1, 1), (1, .iload_n 0, 1), (2, .if_icmp .ge 35, 3), (37, .return_, 1)] := by decide +kernel
def QrmCL (Z : State) (n : Nat) (h0 : Heap) (n0 : Nat) (v : Option Value) (h : Heap) (L : List Loc) : Prop := v = none ∧ Fr n0 L ∧ h = h0
theorem rmCL (l : Launch) (Z : State) (av0 : Array Value) (hw : ∀ d ∈ tables_1, d.before av0 Z = true) (ws : List Jvm.Cond) (n : Nat) (h0 : Heap) (n0 : Nat) (Z0 : n0 ≤ h0.size) (hbd : n < 1000) :
   own_Met l mN19 jdk_65_method_131_code 2 none ws ({ frames := 0, cells := 0, slots := 0, locals := 0 } : Room) #[(.int 0), (.int (own_n n))] Z h0 (QrmCL Z n h0 n0) := by
 refine MetFree.of_bodySF (plainFor_of_name pn_Arrays) hisR ?_
 intro p e s m args below meth c s₁ Bd hml0 hP hK
 obtain ⟨rfl, hZ, hh⟩ := hP
 have hml : c.maxLocals = 2 := hml0
 obtain ⟨hx, hby, hown, hnm, X0, e0⟩ := own_start Bd hml0 hh
 have N0 := Fr.nil n0
 have Y := @oY _ _ _ hby D_rmCL
 obtain ⟨P0, in0, pre0⟩ : ∃ P : State → Prop, (∀ tz, oS p e below s₁ (mkF m 0 #[iv 0, iv (own_n n)] []) tz → P tz) ∧ ∀ tz, P tz → Steps p.tables e below (s₁.setTop (entryFrame m #[(.int 0), (.int (own_n n))] 2)) tz := ⟨_, fun _ kz => kz, fun tz kz => castTop (by first | (simp [entryFrame, mkF, argsToLocals, Value.category]; done) | rfl) kz⟩
 have S1 : ∀ tz, oS p e below s₁ (mkF m 37 #[iv 0, iv (own_n n)] []) tz → P0 tz := fun tz kz => in0 tz (by
  refine XS.iloadN X0.here hx rfl (Y 0 rfl) rfl ?_
  refine XS.iloadN X0.here hx rfl (Y 1 rfl) rfl ?_
  refine XS.icmpYes X0.here hx rfl (pc0 := 2) (pc' := 37) rfl (Y 2 rfl) rfl (XT.ii_ge_t (own_nge (by omega))) (by decide) (by decide) ?_
  exact kz)
 obtain ⟨fs, hr, hrun, hended, hW, hsame⟩ := X0.leave (v := none) (fun _ => rfl)
 refine ⟨_, _, pre0 _ (S1 _ ?_), hrun, hended, _, _, rfl, ?_, ⟨_, rfl⟩, hW, hsame.mono (by decide) (by decide)⟩
 · exact X0.returnOut hx Bd.returns (Y 3 rfl) hr
 · show QrmCL Z n h0 n0 _ s₁.heap _
   rw [e0]
   exact ⟨rfl, N0, rfl⟩
theorem own_nsub0 (x : Nat) : own_n x - (0 : Int32) = own_n x := by simp
theorem D_rmRB : oL jdk_65_method_133_code [(0, .iload_n 1, 1), (1, .iload_n 2, 1), (2, .invokestatic 343, 3), (5, .iload_n 2, 1), (6, .iload_n 1, 1), (7, .isub, 1), (8, .istore_n 3, 1), (9, .iload_n 3, 1), (10, .newarray .byte, 2), (12, .astore 4, 2), (14, .aload_n 0, 1), (15, .iload_n 1, 1), (16, .aload 4, 2), (18, .iconst 0, 1), (19, .aload_n 0, 1), (20, .arraylength, 1), (21, .iload_n 1, 1), (22, .isub, 1), (23, .iload_n 3, 1), (24, .invokestatic 304, 3), (27, .invokestatic 150, 3), (30, .aload 4, 2), (32, .areturn, 1)] := by decide +kernel
theorem pd__II_V : parseMethodDescriptor "(II)V" = some ⟨[.int, .int], none⟩ := by decide +kernel
def QrmRB (Z : State) (a0 : Addr) (cap : Nat) (g : Nat → Int32) (n : Nat) (h0 : Heap) (n0 : Nat) (v : Option Value) (h : Heap) (L : List Loc) : Prop := ∃ b : Addr, v = some (.ref b) ∧ Fr n0 L ∧ h0.size ≤ b ∧ Keep h0 h [] ∧ own_Ab Z h b n (own_cp g (fun _ => 0) 0 0 n)
theorem rmRB (l : Launch) (Z : State) (av0 : Array Value) (hw : ∀ d ∈ tables_1, d.before av0 Z = true) (ws : List Jvm.Cond) (a0 : Addr) (cap : Nat) (g : Nat → Int32) (n : Nat) (h0 : Heap) (n0 : Nat) (Z0 : n0 ≤ h0.size) (hA : own_Ab Z h0 a0 cap g) (hbd : n < cap ∧ cap ≤ 140) :
   own_Met l mN20 jdk_65_method_133_code 5 (some (.array .byte)) ws ({ frames := 1, cells := 1, slots := 140, locals := 40 } : Room) #[(.ref a0), (.int 0), (.int (own_n n))] Z h0 (QrmRB Z a0 cap g n h0 n0) := by
 refine MetFree.of_bodySF (plainFor_of_name pn_Arrays) hisR ?_
 intro p e s m args below meth c s₁ Bd hml0 hP hK
 obtain ⟨rfl, hZ, hh⟩ := hP
 have hml : c.maxLocals = 5 := hml0
 obtain ⟨hx, hby, hown, hnm, X0, e0⟩ := own_start Bd hml0 hh
 have N0 := Fr.nil n0
 have Y := @oY _ _ _ hby D_rmRB
 obtain ⟨P0, in0, pre0⟩ : ∃ P : State → Prop, (∀ tz, oS p e below s₁ (mkF m 0 #[rv a0, iv 0, iv (own_n n), .unset, .unset] []) tz → P tz) ∧ ∀ tz, P tz → Steps p.tables e below (s₁.setTop (entryFrame m #[(.ref a0), (.int 0), (.int (own_n n))] 5)) tz := ⟨_, fun _ kz => kz, fun tz kz => castTop (by first | (simp [entryFrame, mkF, argsToLocals, Value.category]; done) | rfl) kz⟩
 obtain ⟨_, T1, Lc1, X1, hQ1, st1⟩ := own_callS (W := 0) (y := mN19) X0 hx hZ hown (oq hw 217 rfl) (oq hw 218 rfl) (oq hw 134 rfl) (oq hw 219 rfl) (by decide) (rmCL l Z av0 hw [] n h0 n0 Z0 (by omega)) (by decide) (by decide) (g := (mkF m 2 #[rv a0, iv 0, iv (own_n n), .unset, .unset] [(.int (own_n n)), (.int 0)])) rfl (by rw [hml]; rfl) (argsL := [(.int 0), (.int (own_n n))]) (rest := []) (lenOf pd__II_V rfl) rfl (Y 2 rfl) rfl e0 (by decide : 0 + 0 ≤ _) (by decide : 0 + 0 ≤ _)
 obtain ⟨rfl, N1q, hh1⟩ := hQ1
 have N1 := Fr.app N0 N1q
 have e1 : T1.heap = h0 := hh1
 obtain ⟨T2, h2, k2, X2, e2, E2, A2, st2⟩ := newP X1 hx hZ (oq hw 3 rfl) e1 (g := (mkF m 10 #[rv a0, iv 0, iv (own_n n), iv (own_n n), .unset] [(.int (own_n n))])) rfl (Y 8 rfl) rfl (own_nge (by omega)) (cap := 140) (by rw [own_nc (by omega)]; omega) (by decide) (by decide) (by decide)
 obtain ⟨b2, g2⟩ : ∃ z, z = h0.size := ⟨_, rfl⟩
 rw [← g2] at A2 st2
 have ne_a0_b2 : a0 ≠ b2 := Nat.ne_of_lt (Nat.lt_of_lt_of_le hA.lt (Nat.le_of_eq g2.symm))
 have ge_b2 : n0 ≤ b2 := Nat.le_trans Z0 (Nat.le_of_eq g2.symm)
 have sz_b2 : h0.size ≤ b2 := Nat.le_of_eq g2.symm
 have Z2 : n0 ≤ h2.size := Nat.le_trans Z0 E2.1
 have K2 : Keep h0 h2 [] := (Keep.refl h0 []).ext E2
 have V2 : own_Ab Z h2 b2 n (fun _ => 0) := own_newB n (by omega) A2
 have f3 := (hA.ext E2)
 obtain ⟨kc4, cl4, Ar4, qk4, Sz4, Ng4, Hs4, Gs4⟩ := id f3
 obtain ⟨_, T5, Lc5, X5, hQ5, st5⟩ := own_callS (W := 4) (y := mN3) X2 hx hZ hown (oq hw 136 rfl) (oq hw 137 rfl) (oq hw 128 rfl) (oq hw 138 rfl) (by decide) (rmMin l Z av0 hw [] (own_n cap) (own_n n) h2 n0 Z2 ) (by decide) (by decide) (g := (mkF m 24 #[rv a0, iv 0, iv (own_n n), iv (own_n n), rv b2] [(.int (own_n n)), (.int (own_n cap)), (.int 0), (.ref b2), (.int 0), (.ref a0)])) rfl (by rw [hml]; rfl) (argsL := [(.int (own_n cap)), (.int (own_n n))]) (rest := [(.int 0), (.ref b2), (.int 0), (.ref a0)]) (lenOf pd__II_I rfl) rfl (Y 19 rfl) rfl e2 (by decide : 1 + 0 ≤ _) (by decide : 140 + 0 ≤ _)
 obtain ⟨rfl, N5q, hh5⟩ := hQ5
 have N5 := Fr.app N1 N5q
 have e5 : T5.heap = h2 := hh5
 obtain ⟨ka6, Aa6⟩ := id f3
 obtain ⟨kb6, Ab6⟩ := id V2
 have qc6_0 : ((0 : Int32)).toNatClampNeg = 0 := rfl
 have qc6_2 : ((own_n n)).toNatClampNeg = n := own_nc (i := n) (by omega)
 have qc6_3 : ((own_n cap)).toNatClampNeg = cap := own_nc (i := cap) (by omega)
 obtain ⟨T6, h6, L6, X6, e6, N6, K6, B6, st6⟩ := cpA X5 hx hZ hown (oq hw 139 rfl) (oq hw 115 rfl) (oq hw 113 rfl) (oq hw 114 rfl) e5 (sp := (0 : Int32)) (dp := (0 : Int32)) (nn := (own_n n)) Aa6 Ab6 (Or.inl ⟨rfl, rfl⟩) (by decide) (by decide) (own_nge (i := n) (by omega)) (by have := (show 0 + n ≤ cap by omega); omega) (by have := (show 0 + n ≤ n by omega); omega) rfl (by have := (show 0 + n ≤ n by omega); rw [own_vlen]; omega) N5 ge_b2 (g := (mkF m 27 #[rv a0, iv 0, iv (own_n n), iv (own_n n), rv b2] [(.int (own_n n)), (.int 0), (.ref b2), (.int 0), (.ref a0)])) rfl (by rw [hml]; rfl) (rest := []) rfl (Y 20 rfl) (by decide) (W := 0) (by show 2 * 0 + _ ≤ _; exact Nat.le_of_eq rfl) (by decide)
 rw [qc6_0, qc6_2, own_cpl (n := cap) (n' := n) (sp := 0) (dp := 0) (m := n) (show 0 + n ≤ cap by omega) (show 0 + n ≤ n by omega)] at B6
 have V6 : own_Ab Z h6 b2 n (own_cp g (fun _ => 0) 0 0 n) := ⟨_, B6⟩
 have Zk6 : n0 ≤ h6.size := Nat.le_trans Z2 K6.1
 have Kk6 : Keep h0 h6 [] := K2.trans K6 (allS (Or.inr sz_b2) all0)
 have S7 : ∀ tz, oS p e below T6 (mkF m 32 #[rv a0, iv 0, iv (own_n n), iv (own_n n), rv b2] [(.ref b2)]) tz → P0 tz := fun tz kz => in0 tz (by
  refine XS.iloadN X0.here hx rfl (Y 0 rfl) rfl ?_
  refine XS.iloadN X0.here hx rfl (Y 1 rfl) rfl ?_
  refine st1 _ ?_
  refine XS.iloadN X1.here hx rfl (Y 3 rfl) rfl ?_
  refine XS.iloadN X1.here hx rfl (Y 4 rfl) rfl ?_
  refine XS.isub X1.here hx rfl (Y 5 rfl) rfl ?_
  show oS p e below T1 (mkF m 8 #[rv a0, iv 0, iv (own_n n), .unset, .unset] [(.int ((own_n n) - (0 : Int32)))]) _
  rw [own_nsub0]
  show oS p e below T1 (mkF m 8 #[rv a0, iv 0, iv (own_n n), .unset, .unset] [(.int (own_n n))]) _
  refine XS.istoreN X1.here hx rfl (Y 6 rfl) rfl (l' := #[rv a0, iv 0, iv (own_n n), iv (own_n n), .unset]) rfl ?_
  refine XS.iloadN X1.here hx rfl (Y 7 rfl) rfl ?_
  refine st2 _ ?_
  show oS p e below T2 (mkF m 12 #[rv a0, iv 0, iv (own_n n), iv (own_n n), .unset] [(.ref b2)]) _
  refine XS.astore X2.here hx rfl (Y 9 rfl) rfl rfl (l' := #[rv a0, iv 0, iv (own_n n), iv (own_n n), rv b2]) rfl ?_
  refine XS.aloadN X2.here hx rfl (Y 10 rfl) rfl rfl ?_
  refine XS.iloadN X2.here hx rfl (Y 11 rfl) rfl ?_
  refine XS.aload X2.here hx rfl (Y 12 rfl) rfl rfl ?_
  refine XT.iconstV X2.here hx rfl (0 : Int32) (Y 13 rfl) (by decide) ?_
  refine XS.aloadN X2.here hx rfl (Y 14 rfl) rfl rfl ?_
  refine X2.arraylength hx (by rw [e2]; exact Ar4.1) (State.isArrayOf_alike hZ.alike Ar4.2.1) (g := (mkF m 20 #[rv a0, iv 0, iv (own_n n), iv (own_n n), rv b2] [(.ref a0), (.int 0), (.ref b2), (.int 0), (.ref a0)])) rfl rfl (Y 15 rfl) _ ?_
  rw [len_of Sz4 Ng4]
  refine XS.iloadN X2.here hx rfl (Y 16 rfl) rfl ?_
  refine XS.isub X2.here hx rfl (Y 17 rfl) rfl ?_
  show oS p e below T2 (mkF m 23 #[rv a0, iv 0, iv (own_n n), iv (own_n n), rv b2] [(.int ((own_n cap) - (0 : Int32))), (.int 0), (.ref b2), (.int 0), (.ref a0)]) _
  rw [own_nsub0]
  show oS p e below T2 (mkF m 23 #[rv a0, iv 0, iv (own_n n), iv (own_n n), rv b2] [(.int (own_n cap)), (.int 0), (.ref b2), (.int 0), (.ref a0)]) _
  refine XS.iloadN X2.here hx rfl (Y 18 rfl) rfl ?_
  refine st5 _ ?_
  show oS p e below T5 (mkF m 27 #[rv a0, iv 0, iv (own_n n), iv (own_n n), rv b2] [(.int (own_mi (own_n cap) (own_n n))), (.int 0), (.ref b2), (.int 0), (.ref a0)]) _
  rw [own_miN (by omega) (by omega), show min cap n = n by omega]
  show oS p e below T5 (mkF m 27 #[rv a0, iv 0, iv (own_n n), iv (own_n n), rv b2] [(.int (own_n n)), (.int 0), (.ref b2), (.int 0), (.ref a0)]) _
  refine st6 _ ?_
  refine XS.aload X6.here hx rfl (Y 21 rfl) rfl rfl ?_
  exact kz)
 obtain ⟨fs, hr, hrun, hended, hW, hsame⟩ := X6.leave (v := some (.ref b2)) (fun h => by rw [Bd.returns] at h; cases h)
 refine ⟨_, _, pre0 _ (S7 _ ?_), hrun, hended, _, _, rfl, ?_, ⟨_, rfl⟩, hW, hsame.mono (by decide) (by decide)⟩
 · jvm_step X6.here [X6.here.top, hx, (Y 22 rfl), X6.method', Bd.returns, Value.isRef, FieldType.isReference]
   first | (intro acts; rw [hr _ acts rfl rfl rfl]) | rw [hr _ _ rfl rfl rfl]
   exact Steps.refl _
 · show QrmRB Z a0 cap g n h0 n0 _ T6.heap _
   rw [e6]
   exact ⟨_, rfl, N6, sz_b2, Kk6, V6⟩
theorem D_rmRG : oL jdk_65_method_132_code [(0, .iload_n 1, 1), (1, .ifCond .ne 9, 3), (4, .iload_n 2, 1), (5, .aload_n 0, 1), (6, .arraylength, 1), (7, .if_icmp .eq 10, 3), (10, .aload_n 0, 1), (11, .iload_n 1, 1), (12, .iload_n 2, 1), (13, .invokestatic 339, 3), (16, .areturn, 1)] := by decide +kernel
theorem pd__A_BII_A_B : parseMethodDescriptor "([BII)[B" = some ⟨[(.array .byte), .int, .int], some (.array .byte)⟩ := by decide +kernel
def QrmRG (Z : State) (a0 : Addr) (cap : Nat) (g : Nat → Int32) (n : Nat) (h0 : Heap) (n0 : Nat) (v : Option Value) (h : Heap) (L : List Loc) : Prop := ∃ b : Addr, v = some (.ref b) ∧ Fr n0 L ∧ h0.size ≤ b ∧ Keep h0 h [] ∧ own_Ab Z h b n (own_cp g (fun _ => 0) 0 0 n)
theorem rmRG (l : Launch) (Z : State) (av0 : Array Value) (hw : ∀ d ∈ tables_1, d.before av0 Z = true) (ws : List Jvm.Cond) (a0 : Addr) (cap : Nat) (g : Nat → Int32) (n : Nat) (h0 : Heap) (n0 : Nat) (Z0 : n0 ≤ h0.size) (hA : own_Ab Z h0 a0 cap g) (hbd : n < cap ∧ cap ≤ 140) :
   own_Met l mN21 jdk_65_method_132_code 3 (some (.array .byte)) ws ({ frames := 2, cells := 1, slots := 140, locals := 56 } : Room) #[(.ref a0), (.int 0), (.int (own_n n))] Z h0 (QrmRG Z a0 cap g n h0 n0) := by
 refine MetFree.of_bodySF (plainFor_of_name pn_Arrays) hisR ?_
 intro p e s m args below meth c s₁ Bd hml0 hP hK
 obtain ⟨rfl, hZ, hh⟩ := hP
 have hml : c.maxLocals = 3 := hml0
 obtain ⟨hx, hby, hown, hnm, X0, e0⟩ := own_start Bd hml0 hh
 have N0 := Fr.nil n0
 have Y := @oY _ _ _ hby D_rmRG
 obtain ⟨P0, in0, pre0⟩ : ∃ P : State → Prop, (∀ tz, oS p e below s₁ (mkF m 0 #[rv a0, iv 0, iv (own_n n)] []) tz → P tz) ∧ ∀ tz, P tz → Steps p.tables e below (s₁.setTop (entryFrame m #[(.ref a0), (.int 0), (.int (own_n n))] 3)) tz := ⟨_, fun _ kz => kz, fun tz kz => castTop (by first | (simp [entryFrame, mkF, argsToLocals, Value.category]; done) | rfl) kz⟩
 obtain ⟨kc1, cl1, Ar1, qk1, Sz1, Ng1, Hs1, Gs1⟩ := id hA
 obtain ⟨_, T2, Lc2, X2, hQ2, st2⟩ := own_callS (W := 0) (y := mN20) X0 hx hZ hown (oq hw 214 rfl) (oq hw 215 rfl) (oq hw 134 rfl) (oq hw 216 rfl) (by decide) (rmRB l Z av0 hw [] a0 cap g n h0 n0 Z0 hA ⟨by omega, by omega⟩) (by decide) (by decide) (g := (mkF m 13 #[rv a0, iv 0, iv (own_n n)] [(.int (own_n n)), (.int 0), (.ref a0)])) rfl (by rw [hml]; rfl) (argsL := [(.ref a0), (.int 0), (.int (own_n n))]) (rest := []) (lenOf pd__A_BII_A_B rfl) rfl (Y 9 rfl) rfl e0 (by decide : 0 + 1 ≤ _) (by decide : 0 + 140 ≤ _)
 obtain ⟨b2, rfl, N2q, gb2, K2, V2⟩ := hQ2
 have N2 := Fr.app N0 N2q
 have e2 : T2.heap = T2.heap := rfl
 have ne_a0_b2 : a0 ≠ b2 := Nat.ne_of_lt (Nat.lt_of_lt_of_le hA.lt gb2)
 have ge_b2 : n0 ≤ b2 := Nat.le_trans Z0 gb2
 have sz_b2 : h0.size ≤ b2 := gb2
 have Zk2 : n0 ≤ T2.heap.size := Nat.le_trans Z0 K2.1
 have Kk2 : Keep h0 T2.heap [] := (Keep.refl h0 []).trans K2 all0
 have S3 : ∀ tz, oS p e below T2 (mkF m 16 #[rv a0, iv 0, iv (own_n n)] [(.ref b2)]) tz → P0 tz := fun tz kz => in0 tz (by
  refine XS.iloadN X0.here hx rfl (Y 0 rfl) rfl ?_
  refine XS.ifNo X0.here hx rfl (Y 1 rfl) rfl (XT.i0_ne_f (by decide)) ?_
  refine XS.iloadN X0.here hx rfl (Y 2 rfl) rfl ?_
  refine XS.aloadN X0.here hx rfl (Y 3 rfl) rfl rfl ?_
  refine X0.arraylength hx (by rw [e0]; exact Ar1.1) (State.isArrayOf_alike hZ.alike Ar1.2.1) (g := (mkF m 6 #[rv a0, iv 0, iv (own_n n)] [(.ref a0), (.int (own_n n))])) rfl rfl (Y 4 rfl) _ ?_
  rw [len_of Sz1 Ng1]
  refine XS.icmpNo X0.here hx rfl (Y 5 rfl) rfl (XT.ii_eq_f (own_nne (by omega) (by omega) (by omega))) ?_
  refine XS.aloadN X0.here hx rfl (Y 6 rfl) rfl rfl ?_
  refine XS.iloadN X0.here hx rfl (Y 7 rfl) rfl ?_
  refine XS.iloadN X0.here hx rfl (Y 8 rfl) rfl ?_
  refine st2 _ ?_
  show oS p e below T2 (mkF m 16 #[rv a0, iv 0, iv (own_n n)] [(.ref b2)]) _
  exact kz)
 obtain ⟨fs, hr, hrun, hended, hW, hsame⟩ := X2.leave (v := some (.ref b2)) (fun h => by rw [Bd.returns] at h; cases h)
 refine ⟨_, _, pre0 _ (S3 _ ?_), hrun, hended, _, _, rfl, ?_, ⟨_, rfl⟩, hW, hsame.mono (by decide) (by decide)⟩
 · jvm_step X2.here [X2.here.top, hx, (Y 10 rfl), X2.method', Bd.returns, Value.isRef, FieldType.isReference]
   first | (intro acts; rw [hr _ acts rfl rfl rfl]) | rw [hr _ _ rfl rfl rfl]
   exact Steps.refl _
 · show QrmRG Z a0 cap g n h0 n0 _ T2.heap _
   rw [e2]
   exact ⟨_, rfl, N2, sz_b2, Kk2, V2⟩
theorem own_nface {args : Array Value} {s : State} {C : String} {y z : MethodName} (hyz : z.cls = y.cls) (hsel : (Cond.selects C z z).before args s = true) : NotFace s y := fun r0 h0 => by
  obtain ⟨c2, r2, m2, q1, q2, q3, q4, kP, hkP, hkPi⟩ := Cond.selects_spec hsel
  have hc := findClass_of_methodNamed h0
  have hz := findClass_of_methodNamed q3
  rw [hyz, hc] at hz
  exact ⟨kP, by rw [Option.some.inj hz]; exact hkP, hkPi⟩
theorem D_rmS2 : oL jdk_42_method_150_code [(0, .aload_n 0, 1), (1, .invokespecial 1, 3), (4, .aload_n 1, 1), (5, .invokevirtual 552, 3), (8, .astore_n 3, 1), (9, .aload_n 1, 1), (10, .invokevirtual 549, 3), (13, .istore 4, 2), (15, .aload_n 1, 1), (16, .invokevirtual 1047, 3), (19, .ifCond .eq 22, 3), (22, .aload_n 0, 1), (23, .iconst 0, 1), (24, .putfield 15, 3), (27, .aload_n 0, 1), (28, .aload_n 3, 1), (29, .iconst 0, 1), (30, .iload 4, 2), (32, .invokestatic 54, 3), (35, .putfield 9, 3), (38, .goto 59, 3), (97, .return_, 1)] := by decide +kernel
theorem pd__A_B : parseMethodDescriptor "()[B" = some ⟨[], some (.array .byte)⟩ := by decide +kernel
theorem pd__Z : parseMethodDescriptor "()Z" = some ⟨[], some .boolean⟩ := by decide +kernel
def QrmS2 (Z : State) (sa : Addr) (a0 : Addr) (b0 : Addr) (cap : Nat) (n : Nat) (g : Nat → Int32) (wC : Int32) (h0 : Heap) (n0 : Nat) (v : Option Value) (h : Heap) (L : List Loc) : Prop := v = none ∧ Fr n0 L ∧ ∃ b : Addr, Keep h0 h [sa] ∧ own_Str Z h sa b n (own_cp g (fun _ => 0) 0 0 n) ∧ h0.size ≤ b
theorem rmS2 (l : Launch) (Z : State) (av0 : Array Value) (hw : ∀ d ∈ tables_1, d.before av0 Z = true) (ws : List Jvm.Cond) (sa : Addr) (a0 : Addr) (b0 : Addr) (cap : Nat) (n : Nat) (g : Nat → Int32) (wC : Int32) (h0 : Heap) (n0 : Nat) (Z0 : n0 ≤ h0.size) (hE : Exa Z h0 sa "java/lang/String") (hV : Fld Z h0 sa "java/lang/String" "value" "[B" .null) (hCo : Fld Z h0 sa "java/lang/String" "coder" "B" (.int (0 : Int32))) (hgs : n0 ≤ sa) (hD : own_Bd Z h0 a0 b0 cap n g) (hn1 : sa ≠ a0) (hn2 : sa ≠ b0) (hbd : n < cap ∧ cap ≤ 140) (hSC : Sta Z h0 "java/lang/String" "COMPACT_STRINGS" "Z" (.int wC)) (hwC : ¬ wC = (0 : Int32)) :
   own_Met l mN22 jdk_42_method_150_code 5 none ws ({ frames := 3, cells := 1, slots := 140, locals := 71 } : Room) #[(.ref sa), (.ref a0), .null] Z h0 (QrmS2 Z sa a0 b0 cap n g wC h0 n0) := by
 refine MetFree.of_bodySF (plainFor_of_name pn_String) hisR ?_
 intro p e s m args below meth c s₁ Bd hml0 hP hK
 obtain ⟨rfl, hZ, hh⟩ := hP
 have hml : c.maxLocals = 5 := hml0
 obtain ⟨hx, hby, hown, hnm, X0, e0⟩ := own_start Bd hml0 hh
 have N0 := Fr.nil n0
 have Y := @oY _ _ _ hby D_rmS2
 obtain ⟨P0, in0, pre0⟩ : ∃ P : State → Prop, (∀ tz, oS p e below s₁ (mkF m 0 #[rv sa, rv a0, .val .null, .unset, .unset] []) tz → P tz) ∧ ∀ tz, P tz → Steps p.tables e below (s₁.setTop (entryFrame m #[(.ref sa), (.ref a0), .null] 5)) tz := ⟨_, fun _ kz => kz, fun tz kz => castTop (by first | (simp [entryFrame, mkF, argsToLocals, Value.category]; done) | rfl) kz⟩
 obtain ⟨T1, X1, e1, st1⟩ := initO X0 hx hZ hown (oq hw 196 rfl) (oq hw 15 rfl) (oq hw 16 rfl) e0 (g := (mkF m 1 #[rv sa, rv a0, .val .null, .unset, .unset] [(.ref sa)])) rfl (by rw [hml]; rfl) rfl (Y 1 rfl) (by decide) (W := 0) (by show 2 * 0 + _ ≤ _; exact Nat.le_of_eq rfl) (by decide)
 obtain ⟨_, T2, Lc2, X2, hQ2, st2⟩ := own_virtual (W := 0) (y := mN16) (z := mN16) X1 hx hZ hown (oq hw 197 rfl) (oq hw 198 rfl) (notFace_of_selects (args := #[]) (mvT hZ (oq hw 200 rfl))) (oq hw 200 rfl) (oq hw 199 rfl) (oq hw 201 rfl) (oq hw 57 rfl) (by decide) (rmGV l Z av0 hw [] a0 b0 cap n g h0 n0 Z0 (own_Bd.mk hD.E hD.C hD.V hD.N hD.A) ) (by decide) (by decide) hD.E (g := (mkF m 5 #[rv sa, rv a0, .val .null, .unset, .unset] [(.ref a0)])) rfl (by rw [hml]; rfl) (argsL := []) (rest := []) (lenOf pd__A_B rfl) rfl (Y 3 rfl) rfl e1 (by decide : 0 + 0 ≤ _) (by decide : 0 + 0 ≤ _)
 obtain ⟨rfl, N2q, hh2⟩ := hQ2
 have N2 := Fr.app N0 N2q
 have e2 : T2.heap = h0 := hh2
 obtain ⟨_, T3, Lc3, X3, hQ3, st3⟩ := own_virtual (W := 0) (y := mN17) (z := mN18) X2 hx hZ hown (oq hw 202 rfl) (oq hw 203 rfl) (own_nface (args := #[]) (z := mN7) rfl (mvT hZ (oq hw 94 rfl))) (oq hw 205 rfl) (oq hw 206 rfl) (oq hw 207 rfl) (oq hw 49 rfl) (by decide) (rmSL l Z av0 hw [] a0 b0 cap n g h0 n0 Z0 (own_Bd.mk hD.E hD.C hD.V hD.N hD.A) ) (by decide) (by decide) hD.E (g := (mkF m 10 #[rv sa, rv a0, .val .null, rv b0, .unset] [(.ref a0)])) rfl (by rw [hml]; rfl) (argsL := []) (rest := []) (lenOf pd__I rfl) rfl (Y 6 rfl) rfl e2 (by decide : 0 + 0 ≤ _) (by decide : 0 + 0 ≤ _)
 obtain ⟨rfl, N3q, hh3⟩ := hQ3
 have N3 := Fr.app N2 N3q
 have e3 : T3.heap = h0 := hh3
 obtain ⟨_, T4, Lc4, X4, hQ4, st4⟩ := own_virtual (W := 0) (y := mN15) (z := mN15) X3 hx hZ hown (oq hw 210 rfl) (oq hw 154 rfl) (notFace_of_selects (args := #[]) (mvT hZ (oq hw 156 rfl))) (oq hw 156 rfl) (oq hw 155 rfl) (oq hw 157 rfl) (oq hw 57 rfl) (by decide) (rmIL l Z av0 hw [] a0 b0 cap n g wC h0 n0 Z0 (own_Bd.mk hD.E hD.C hD.V hD.N hD.A) hSC hwC) (by decide) (by decide) hD.E (g := (mkF m 16 #[rv sa, rv a0, .val .null, rv b0, iv (own_n n)] [(.ref a0)])) rfl (by rw [hml]; rfl) (argsL := []) (rest := []) (lenOf pd__Z rfl) rfl (Y 9 rfl) rfl e3 (by decide : 0 + 0 ≤ _) (by decide : 0 + 0 ≤ _)
 obtain ⟨rfl, N4q, hh4⟩ := hQ4
 have N4 := Fr.app N3 N4q
 have e4 : T4.heap = h0 := hh4
 obtain ⟨T5, h5, X5, e5, W5, st5⟩ := putFN X4 hx hZ hown (oq hw 88 rfl) Via.refl e4 hCo hE (Or.inr ⟨(oq hw 5 rfl), rfl, hnm⟩) (oq hw 2 rfl) (ty := .byte) (v' := (.int 0)) (by decide) rfl rfl (g := (mkF m 24 #[rv sa, rv a0, .val .null, rv b0, iv (own_n n)] [(.int 0), (.ref sa)])) rfl rfl (Y 13 rfl)
 have N5 := Fr.snoc X5 N4 hgs
 have Z5 : n0 ≤ h5.size := Nat.le_trans Z0 (Nat.le_of_eq W5.size.symm)
 have K5 : Keep h0 h5 [sa] := (Keep.refl h0 [sa]).wr W5 (Or.inl (List.mem_of_getElem? (i := 0) rfl))
 have Fw5 := hCo.same W5
 have f6 := (hD.A.other W5 (Ne.symm hn2))
 obtain ⟨_, T7, Lc7, X7, hQ7, st7⟩ := own_callS (W := 1) (y := mN21) X5 hx hZ hown (oq hw 211 rfl) (oq hw 212 rfl) (oq hw 134 rfl) (oq hw 213 rfl) (by decide) (rmRG l Z av0 hw [] b0 cap g n h5 n0 Z5 f6 ⟨by omega, by omega⟩) (by decide) (by decide) (g := (mkF m 32 #[rv sa, rv a0, .val .null, rv b0, iv (own_n n)] [(.int (own_n n)), (.int 0), (.ref b0), (.ref sa)])) rfl (by rw [hml]; rfl) (argsL := [(.ref b0), (.int 0), (.int (own_n n))]) (rest := [(.ref sa)]) (lenOf pd__A_BII_A_B rfl) rfl (Y 18 rfl) rfl e5 (by decide : 0 + 1 ≤ _) (by decide : 0 + 140 ≤ _)
 obtain ⟨b7, rfl, N7q, gb7, K7, V7⟩ := hQ7
 have N7 := Fr.app N5 N7q
 have e7 : T7.heap = T7.heap := rfl
 have f8 := (hD.E.wr W5)
 have ne_a0_b7 : a0 ≠ b7 := Nat.ne_of_lt (Nat.lt_of_lt_of_le f8.lt gb7)
 have ne_b0_b7 : b0 ≠ b7 := Nat.ne_of_lt (Nat.lt_of_lt_of_le f6.lt gb7)
 have f9 := (hE.wr W5)
 have ne_sa_b7 : sa ≠ b7 := Nat.ne_of_lt (Nat.lt_of_lt_of_le f9.lt gb7)
 have ge_b7 : n0 ≤ b7 := Nat.le_trans Z5 gb7
 have sz_b7 : h0.size ≤ b7 := Nat.le_trans K5.1 gb7
 have Zk7 : n0 ≤ T7.heap.size := Nat.le_trans Z5 K7.1
 have Kk7 : Keep h0 T7.heap [sa] := K5.trans K7 all0
 have f10 := ((hV.other W5 (Or.inr (slot_ne (Or.inr (oq hw 4 rfl)) (Or.inr (oq hw 5 rfl)) (by decide) (t := (.array .byte)) (t' := .byte) (by decide) (by decide)))).keep K7 nin0)
 have f11 := (f9.keep K7)
 obtain ⟨T12, h12, X12, e12, W12, st12⟩ := putF X7 hx hZ hown (host := "") (Or.inl (oq hw 81 rfl)) Via.refl e7 f10 f11 (Or.inr ⟨(oq hw 4 rfl), rfl, hnm⟩) (oq hw 2 rfl) (ty := (.array .byte)) (by decide) rfl rfl (g := (mkF m 35 #[rv sa, rv a0, .val .null, rv b0, iv (own_n n)] [(.ref b7), (.ref sa)])) rfl rfl (Y 19 rfl)
 have N12 := Fr.snoc X12 N7 hgs
 have Z12 : n0 ≤ h12.size := Nat.le_trans Zk7 (Nat.le_of_eq W12.size.symm)
 have K12 : Keep h0 h12 [sa] := Kk7.wr W12 (Or.inl (List.mem_of_getElem? (i := 0) rfl))
 have Fw12 := f10.same W12
 have S13 : ∀ tz, oS p e below T12 (mkF m 97 #[rv sa, rv a0, .val .null, rv b0, iv (own_n n)] []) tz → P0 tz := fun tz kz => in0 tz (by
  refine XS.aloadN X0.here hx rfl (Y 0 rfl) rfl rfl ?_
  refine st1 _ ?_
  refine XS.aloadN X1.here hx rfl (Y 2 rfl) rfl rfl ?_
  refine st2 _ ?_
  refine XS.astoreN X2.here hx rfl (Y 4 rfl) rfl rfl (l' := #[rv sa, rv a0, .val .null, rv b0, .unset]) rfl ?_
  refine XS.aloadN X2.here hx rfl (Y 5 rfl) rfl rfl ?_
  refine st3 _ ?_
  refine XS.istore X3.here hx rfl (Y 7 rfl) rfl (l' := #[rv sa, rv a0, .val .null, rv b0, iv (own_n n)]) rfl ?_
  refine XS.aloadN X3.here hx rfl (Y 8 rfl) rfl rfl ?_
  refine st4 _ ?_
  show oS p e below T4 (mkF m 19 #[rv sa, rv a0, .val .null, rv b0, iv (own_n n)] [(.int 1)]) _
  refine XS.ifNo X4.here hx rfl (Y 10 rfl) rfl (XT.i0_eq_f (by decide)) ?_
  refine XS.aloadN X4.here hx rfl (Y 11 rfl) rfl rfl ?_
  refine XT.iconstV X4.here hx rfl (0 : Int32) (Y 12 rfl) (by decide) ?_
  refine st5 _ ?_
  refine XS.aloadN X5.here hx rfl (Y 14 rfl) rfl rfl ?_
  refine XS.aloadN X5.here hx rfl (Y 15 rfl) rfl rfl ?_
  refine XT.iconstV X5.here hx rfl (0 : Int32) (Y 16 rfl) (by decide) ?_
  refine XS.iload X5.here hx rfl (Y 17 rfl) rfl ?_
  refine st7 _ ?_
  refine st12 _ ?_
  show oS p e below T12 (mkF m 38 #[rv sa, rv a0, .val .null, rv b0, iv (own_n n)] []) _
  refine XS.goto X12.here hx rfl (pc0 := 38) (pc' := 97) rfl (Y 20 rfl) (by decide) (by decide) ?_
  exact kz)
 obtain ⟨fs, hr, hrun, hended, hW, hsame⟩ := X12.leave (v := none) (fun _ => rfl)
 refine ⟨_, _, pre0 _ (S13 _ ?_), hrun, hended, _, _, rfl, ?_, ⟨_, rfl⟩, hW, hsame.mono (by decide) (by decide)⟩
 · exact X12.returnOut hx Bd.returns (Y 21 rfl) hr
 have f14 := (f11.wr W12)
 have f15 := ((Fw5.keep K7 nin0).other W12 (Or.inr (slot_ne (Or.inr (oq hw 5 rfl)) (Or.inr (oq hw 4 rfl)) (by decide) (t := .byte) (t' := (.array .byte)) (by decide) (by decide))))
 have f16 := (V7.other W12 (Ne.symm ne_sa_b7))
 · show QrmS2 Z sa a0 b0 cap n g wC h0 n0 _ T12.heap _
   rw [e12]
   exact ⟨rfl, N12, b7, K12, (own_Str.mk f14 f15 Fw12 f16), sz_b7⟩
theorem D_rmS1 : oL jdk_42_method_53_code [(0, .aload_n 0, 1), (1, .aload_n 1, 1), (2, .aconst_null, 1), (3, .invokespecial 489, 3), (6, .return_, 1)] := by decide +kernel
theorem pd__Ljava_lang_AbstractStringBuilder_Ljava_lang_Void_V : parseMethodDescriptor "(Ljava/lang/AbstractStringBuilder;Ljava/lang/Void;)V" = some ⟨[(.object "java/lang/AbstractStringBuilder"), (.object "java/lang/Void")], none⟩ := by decide +kernel
def QrmS1 (Z : State) (sa : Addr) (a0 : Addr) (b0 : Addr) (cap : Nat) (n : Nat) (g : Nat → Int32) (wC : Int32) (h0 : Heap) (n0 : Nat) (v : Option Value) (h : Heap) (L : List Loc) : Prop := v = none ∧ Fr n0 L ∧ ∃ b : Addr, Keep h0 h [sa] ∧ own_Str Z h sa b n (own_cp g (fun _ => 0) 0 0 n) ∧ h0.size ≤ b
theorem rmS1 (l : Launch) (Z : State) (av0 : Array Value) (hw : ∀ d ∈ tables_1, d.before av0 Z = true) (ws : List Jvm.Cond) (sa : Addr) (a0 : Addr) (b0 : Addr) (cap : Nat) (n : Nat) (g : Nat → Int32) (wC : Int32) (h0 : Heap) (n0 : Nat) (Z0 : n0 ≤ h0.size) (hE : Exa Z h0 sa "java/lang/String") (hV : Fld Z h0 sa "java/lang/String" "value" "[B" .null) (hCo : Fld Z h0 sa "java/lang/String" "coder" "B" (.int (0 : Int32))) (hgs : n0 ≤ sa) (hD : own_Bd Z h0 a0 b0 cap n g) (hn1 : sa ≠ a0) (hn2 : sa ≠ b0) (hbd : n < cap ∧ cap ≤ 140) (hSC : Sta Z h0 "java/lang/String" "COMPACT_STRINGS" "Z" (.int wC)) (hwC : ¬ wC = (0 : Int32)) :
   own_Met l mN23 jdk_42_method_53_code 2 none ws ({ frames := 4, cells := 1, slots := 140, locals := 87 } : Room) #[(.ref sa), (.ref a0)] Z h0 (QrmS1 Z sa a0 b0 cap n g wC h0 n0) := by
 refine MetFree.of_bodySF (plainFor_of_name pn_String) hisR ?_
 intro p e s m args below meth c s₁ Bd hml0 hP hK
 obtain ⟨rfl, hZ, hh⟩ := hP
 have hml : c.maxLocals = 2 := hml0
 obtain ⟨hx, hby, hown, hnm, X0, e0⟩ := own_start Bd hml0 hh
 have N0 := Fr.nil n0
 have Y := @oY _ _ _ hby D_rmS1
 obtain ⟨P0, in0, pre0⟩ : ∃ P : State → Prop, (∀ tz, oS p e below s₁ (mkF m 0 #[rv sa, rv a0] []) tz → P tz) ∧ ∀ tz, P tz → Steps p.tables e below (s₁.setTop (entryFrame m #[(.ref sa), (.ref a0)] 2)) tz := ⟨_, fun _ kz => kz, fun tz kz => castTop (by first | (simp [entryFrame, mkF, argsToLocals, Value.category]; done) | rfl) kz⟩
 obtain ⟨_, T1, Lc1, X1, hQ1, st1⟩ := own_special (W := 0) (y := mN22) X0 hx hZ rfl hown (oq hw 193 rfl) (oq hw 194 rfl) (oq hw 195 rfl) (oq hw 1 rfl) (by decide) (rmS2 l Z av0 hw [] sa a0 b0 cap n g wC h0 n0 Z0 hE hV hCo hgs (own_Bd.mk hD.E hD.C hD.V hD.N hD.A) hn1 hn2 hbd hSC hwC) (by decide) (by decide) (g := (mkF m 3 #[rv sa, rv a0] [.null, (.ref a0), (.ref sa)])) rfl (by rw [hml]; rfl) (a := sa) (argsL := [(.ref a0), .null]) (rest := []) (lenOf pd__Ljava_lang_AbstractStringBuilder_Ljava_lang_Void_V rfl) rfl (Y 3 rfl) rfl e0 (by decide : 0 + 1 ≤ _) (by decide : 0 + 140 ≤ _)
 obtain ⟨rfl, N1q, b1, K1, Db1, gb1⟩ := hQ1
 have N1 := Fr.app N0 N1q
 have e1 : T1.heap = T1.heap := rfl
 have ne_a0_b1 : a0 ≠ b1 := Nat.ne_of_lt (Nat.lt_of_lt_of_le hD.E.lt gb1)
 have ne_b0_b1 : b0 ≠ b1 := Nat.ne_of_lt (Nat.lt_of_lt_of_le hD.A.lt gb1)
 have ne_sa_b1 : sa ≠ b1 := Nat.ne_of_lt (Nat.lt_of_lt_of_le hE.lt gb1)
 have ge_b1 : n0 ≤ b1 := Nat.le_trans Z0 gb1
 have sz_b1 : h0.size ≤ b1 := gb1
 have Zk1 : n0 ≤ T1.heap.size := Nat.le_trans Z0 K1.1
 have Kk1 : Keep h0 T1.heap [sa] := (Keep.refl h0 [sa]).trans K1 (allS (Or.inl (List.mem_of_getElem? (i := 0) rfl)) all0)
 have S2 : ∀ tz, oS p e below T1 (mkF m 6 #[rv sa, rv a0] []) tz → P0 tz := fun tz kz => in0 tz (by
  refine XS.aloadN X0.here hx rfl (Y 0 rfl) rfl rfl ?_
  refine XS.aloadN X0.here hx rfl (Y 1 rfl) rfl rfl ?_
  refine XS.aconstNull X0.here hx rfl (Y 2 rfl) ?_
  refine st1 _ ?_
  exact kz)
 obtain ⟨fs, hr, hrun, hended, hW, hsame⟩ := X1.leave (v := none) (fun _ => rfl)
 refine ⟨_, _, pre0 _ (S2 _ ?_), hrun, hended, _, _, rfl, ?_, ⟨_, rfl⟩, hW, hsame.mono (by decide) (by decide)⟩
 · exact X1.returnOut hx Bd.returns (Y 4 rfl) hr
 · show QrmS1 Z sa a0 b0 cap n g wC h0 n0 _ T1.heap _
   rw [e1]
   exact ⟨rfl, N1, b1, Kk1, (own_Str.mk Db1.E Db1.C Db1.V Db1.A), sz_b1⟩
theorem D_rmTS : oL jdk_67_method_42_code [(0, .new 18, 3), (3, .dup, 1), (4, .aload_n 0, 1), (5, .invokespecial 137, 3), (8, .areturn, 1)] := by decide +kernel
theorem pd__Ljava_lang_StringBuilder_V : parseMethodDescriptor "(Ljava/lang/StringBuilder;)V" = some ⟨[(.object "java/lang/StringBuilder")], none⟩ := by decide +kernel
def QrmTS (Z : State) (a0 : Addr) (b0 : Addr) (cap : Nat) (n : Nat) (g : Nat → Int32) (wC : Int32) (h0 : Heap) (n0 : Nat) (v : Option Value) (h : Heap) (L : List Loc) : Prop := ∃ a b : Addr, v = some (.ref a) ∧ Fr n0 L ∧ Keep h0 h [] ∧ own_Str Z h a b n (own_cp g (fun _ => 0) 0 0 n) ∧ h0.size ≤ a ∧ h0.size ≤ b
theorem rmTS (l : Launch) (Z : State) (av0 : Array Value) (hw : ∀ d ∈ tables_1, d.before av0 Z = true) (ws : List Jvm.Cond) (a0 : Addr) (b0 : Addr) (cap : Nat) (n : Nat) (g : Nat → Int32) (wC : Int32) (h0 : Heap) (n0 : Nat) (Z0 : n0 ≤ h0.size) (hD : own_Bd Z h0 a0 b0 cap n g) (hbd : n < cap ∧ cap ≤ 140) (hSC : Sta Z h0 "java/lang/String" "COMPACT_STRINGS" "Z" (.int wC)) (hwC : ¬ wC = (0 : Int32)) :
   own_Met l mN24 jdk_67_method_42_code 1 (some (.object "java/lang/String")) ws ({ frames := 5, cells := 2, slots := 144, locals := 101 } : Room) #[(.ref a0)] Z h0 (QrmTS Z a0 b0 cap n g wC h0 n0) := by
 refine MetFree.of_bodySF (plainFor_of_name pn_StringBuilder) hisR ?_
 intro p e s m args below meth c s₁ Bd hml0 hP hK
 obtain ⟨rfl, hZ, hh⟩ := hP
 have hml : c.maxLocals = 1 := hml0
 obtain ⟨hx, hby, hown, hnm, X0, e0⟩ := own_start Bd hml0 hh
 have N0 := Fr.nil n0
 have Y := @oY _ _ _ hby D_rmTS
 obtain ⟨P0, in0, pre0⟩ : ∃ P : State → Prop, (∀ tz, oS p e below s₁ (mkF m 0 #[rv a0] []) tz → P tz) ∧ ∀ tz, P tz → Steps p.tables e below (s₁.setTop (entryFrame m #[(.ref a0)] 1)) tz := ⟨_, fun _ kz => kz, fun tz kz => castTop (by first | (simp [entryFrame, mkF, argsToLocals, Value.category]; done) | rfl) kz⟩
 obtain ⟨T1, h1, X1, e1, E1, A1, D1, -, st1⟩ := newO X0 hx hZ hown (oq hw 189 rfl) (oq hw 2 rfl) (oq hw 1 rfl) e0 (g := (mkF m 0 #[rv a0] [])) rfl (Y 0 rfl) (by decide) (by decide)
 obtain ⟨b1, g1⟩ : ∃ z, z = h0.size := ⟨_, rfl⟩
 rw [← g1] at A1 D1 st1
 have ne_a0_b1 : a0 ≠ b1 := Nat.ne_of_lt (Nat.lt_of_lt_of_le hD.E.lt (Nat.le_of_eq g1.symm))
 have ne_b0_b1 : b0 ≠ b1 := Nat.ne_of_lt (Nat.lt_of_lt_of_le hD.A.lt (Nat.le_of_eq g1.symm))
 have ge_b1 : n0 ≤ b1 := Nat.le_trans Z0 (Nat.le_of_eq g1.symm)
 have sz_b1 : h0.size ≤ b1 := Nat.le_of_eq g1.symm
 have Z1 : n0 ≤ h1.size := Nat.le_trans Z0 E1.1
 have K1 : Keep h0 h1 [] := (Keep.refl h0 []).ext E1
 have F1_value : Fld Z h1 b1 "java/lang/String" "value" "[B" .null := D1 (Or.inr (oq hw 4 rfl)) (ty := (.array .byte)) (by decide)
 have F1_coder : Fld Z h1 b1 "java/lang/String" "coder" "B" (.int 0) := D1 (Or.inr (oq hw 5 rfl)) (ty := .byte) (by decide)
 have f2 := (hD.E.ext E1)
 have f3 := (hD.C.ext E1)
 have f4 := (hD.V.ext E1)
 have f5 := (hD.N.ext E1)
 have f6 := (hD.A.ext E1)
 have f7 := (hSC.ext E1)
 obtain ⟨_, T8, Lc8, X8, hQ8, st8⟩ := own_special (W := 1) (y := mN23) X1 hx hZ rfl hown (oq hw 190 rfl) (oq hw 191 rfl) (oq hw 192 rfl) (oq hw 1 rfl) (by decide) (rmS1 l Z av0 hw [] b1 a0 b0 cap n g wC h1 n0 Z1 A1 F1_value F1_coder ge_b1 (own_Bd.mk f2 f3 f4 f5 f6) (Ne.symm ne_a0_b1) (Ne.symm ne_b0_b1) hbd f7 hwC) (by decide) (by decide) (g := (mkF m 5 #[rv a0] [(.ref a0), (.ref b1), (.ref b1)])) rfl (by rw [hml]; rfl) (a := b1) (argsL := [(.ref a0)]) (rest := [(.ref b1)]) (lenOf pd__Ljava_lang_StringBuilder_V rfl) rfl (Y 3 rfl) rfl e1 (by decide : 1 + 1 ≤ _) (by decide : 4 + 140 ≤ _)
 obtain ⟨rfl, N8q, b8, K8, Db8, gb8⟩ := hQ8
 have N8 := Fr.app N0 N8q
 have e8 : T8.heap = T8.heap := rfl
 have ne_a0_b8 : a0 ≠ b8 := Nat.ne_of_lt (Nat.lt_of_lt_of_le f2.lt gb8)
 have ne_b0_b8 : b0 ≠ b8 := Nat.ne_of_lt (Nat.lt_of_lt_of_le f6.lt gb8)
 have ne_b1_b8 : b1 ≠ b8 := Nat.ne_of_lt (Nat.lt_of_lt_of_le A1.lt gb8)
 have ge_b8 : n0 ≤ b8 := Nat.le_trans Z1 gb8
 have sz_b8 : h0.size ≤ b8 := Nat.le_trans K1.1 gb8
 have Zk8 : n0 ≤ T8.heap.size := Nat.le_trans Z1 K8.1
 have Kk8 : Keep h0 T8.heap [] := K1.trans K8 (allS (Or.inr sz_b1) all0)
 have S9 : ∀ tz, oS p e below T8 (mkF m 8 #[rv a0] [(.ref b1)]) tz → P0 tz := fun tz kz => in0 tz (by
  refine st1 _ ?_
  refine XS.dup X1.here hx rfl (Y 1 rfl) rfl rfl ?_
  refine XS.aloadN X1.here hx rfl (Y 2 rfl) rfl rfl ?_
  refine st8 _ ?_
  exact kz)
 obtain ⟨fs, hr, hrun, hended, hW, hsame⟩ := X8.leave (v := some (.ref b1)) (fun h => by rw [Bd.returns] at h; cases h)
 refine ⟨_, _, pre0 _ (S9 _ ?_), hrun, hended, _, _, rfl, ?_, ⟨_, rfl⟩, hW, hsame.mono (by decide) (by decide)⟩
 · jvm_step X8.here [X8.here.top, hx, (Y 4 rfl), X8.method', Bd.returns, Value.isRef, FieldType.isReference]
   first | (intro acts; rw [hr _ acts rfl rfl rfl]) | rw [hr _ _ rfl rfl rfl]
   exact Steps.refl _
 · show QrmTS Z a0 b0 cap n g wC h0 n0 _ T8.heap _
   rw [e8]
   exact ⟨b1, b8, rfl, N8, Kk8, Db8, sz_b1, sz_b8⟩
def own_dg (N : Nat) : Nat := if N < 10 then 1 else own_dg (N / 10) + 1
termination_by N
decreasing_by omega
theorem own_dg1 {N : Nat} (h : N < 10) : own_dg N = 1 := by rw [own_dg, if_pos h]
theorem own_dgS {N : Nat} (h : 10 ≤ N) : own_dg N = own_dg (N / 10) + 1 := by rw [own_dg, if_neg (by omega)]
theorem own_dgpos (N : Nat) : 1 ≤ own_dg N := by
  by_cases h : N < 10
  · rw [own_dg1 h]; omega
  · rw [own_dgS (by omega)]; omega
theorem own_dgle (j : Nat) : ∀ N : Nat, own_dg N ≤ j + 1 ↔ N < 10 ^ (j + 1) := by
  induction j with
  | zero =>
    intro N
    by_cases h : N < 10
    · rw [own_dg1 h]; simp; omega
    · rw [own_dgS (by omega)]; have := own_dgpos (N / 10); simp; omega
  | succ j ih =>
    intro N
    have hp : 10 ^ (j + 1 + 1) = 10 ^ (j + 1) * 10 := rfl
    have h1 : 1 ≤ 10 ^ (j + 1) := Nat.pow_pos (by decide)
    by_cases h : N < 10
    · rw [own_dg1 h, hp]; omega
    · rw [own_dgS (by omega), hp]
      have q := ih (N / 10)
      generalize 10 ^ (j + 1) = P at *
      omega
theorem own_dglt {j N : Nat} (hj : 1 ≤ j) : own_dg N ≤ j ↔ N < 10 ^ j := by
  obtain ⟨i, rfl⟩ : ∃ i, j = i + 1 := ⟨j - 1, by omega⟩
  exact own_dgle i N
theorem own_dg100 {M : Nat} (h : 100 ≤ M) : own_dg M = own_dg (M / 100) + 2 := by
  rw [own_dgS (by omega), own_dgS (N := M / 10) (by omega), Nat.div_div_eq_div_mul]
def own_sz (z : Int) : Nat := own_dg z.natAbs + if z < 0 then 1 else 0
theorem own_szN {z : Int} (j : Nat) (hj : 1 ≤ j) (h1 : z.natAbs < 10 ^ j) (h2 : j = 1 ∨ 10 ^ (j - 1) ≤ z.natAbs) : own_dg z.natAbs = j := by
  have q1 := (own_dglt (N := z.natAbs) hj).mpr h1
  have q2 := own_dgpos z.natAbs
  rcases h2 with h2 | h2
  · omega
  · by_cases r : j = 1
    · omega
    · have q3 := (own_dglt (j := j - 1) (N := z.natAbs) (by omega))
      omega
theorem own_gtT {c x : Int32} {k z : Int} (h : c < x) (hc : c.toInt = k) (hx : x.toInt = z) : k < z := by rw [Int32.lt_iff_toInt_lt, hc, hx] at h; exact h
theorem own_gtF {c x : Int32} {k z : Int} (h : ¬ c < x) (hc : c.toInt = k) (hx : x.toInt = z) : z ≤ k := by rw [Int32.lt_iff_toInt_lt, hc, hx] at h; omega
theorem own_gtTL {c x : Int64} {k z : Int} (h : c < x) (hc : c.toInt = k) (hx : x.toInt = z) : k < z := by rw [Int64.lt_iff_toInt_lt, hc, hx] at h; exact h
theorem own_gtFL {c x : Int64} {k z : Int} (h : ¬ c < x) (hc : c.toInt = k) (hx : x.toInt = z) : z ≤ k := by rw [Int64.lt_iff_toInt_lt, hc, hx] at h; omega
theorem own_negI {y : Int32} (h : ¬ y < 0) : (-y).toInt = -y.toInt := by
  have := c_ineg y; have := rng32 y; have := rng32 (-y)
  rw [Int32.lt_iff_toInt_lt, show (0 : Int32).toInt = 0 from rfl] at h; omega
theorem own_negL {y : Int64} (h : ¬ y < 0) : (-y).toInt = -y.toInt := by
  have := c_lneg y; have := rng64 y; have := rng64 (-y)
  rw [Int64.lt_iff_toInt_lt, show (0 : Int64).toInt = 0 from rfl] at h; omega
def own_ng (M : Nat) : Int32 := Int32.ofInt (-(M : Int))
def own_ngL (M : Nat) : Int64 := Int64.ofInt (-(M : Int))
theorem own_ngI {M : Nat} (h : M ≤ 2147483648) : (own_ng M).toInt = -(M : Int) := by
  unfold own_ng
  rw [Int32.toInt_ofInt_of_le (by show (-2147483648 : Int) ≤ _; omega) (by show _ < (2147483648 : Int); omega)]
theorem own_ngLI {M : Nat} (h : M ≤ 9223372036854775808) : (own_ngL M).toInt = -(M : Int) := by
  unfold own_ngL
  rw [Int64.toInt_ofInt_of_le (by show (-9223372036854775808 : Int) ≤ _; omega) (by show _ < (9223372036854775808 : Int); omega)]
theorem own_ngdiv {M : Nat} (h : M ≤ 2147483648) : own_ng M / (100 : Int32) = own_ng (M / 100) := by
  have q := c_idiv (own_ng M) 100 100 rfl (by decide)
  rw [← Int32.toInt_inj, own_ngI (M := M / 100) (by omega)]
  rw [own_ngI h] at q
  by_cases z : M = 0
  · subst z; have := q.1 (by omega); omega
  · have := q.2 (by omega); omega
theorem own_ngLdiv {M : Nat} (h : M ≤ 9223372036854775808) : own_ngL M / (100 : Int64) = own_ngL (M / 100) := by
  have q := c_ldiv (own_ngL M) 100 100 rfl (by decide)
  rw [← Int64.toInt_inj, own_ngLI (M := M / 100) (by omega)]
  rw [own_ngLI h] at q
  by_cases z : M = 0
  · subst z; have := q.1 (by omega); omega
  · have := q.2 (by omega); omega
theorem own_ngrem {M : Nat} (h : M ≤ 2147483648) : own_ng (M / 100) * (100 : Int32) - own_ng M = own_n (M % 100) := by
  have q1 := c_imul (own_ng (M / 100)) 100
  have q2 := c_isub (own_ng (M / 100) * 100) (own_ng M)
  have r := rng32 (own_ng (M / 100) * (100 : Int32) - own_ng M)
  rw [show (100 : Int32).toInt = 100 from rfl, own_ngI (M := M / 100) (by omega)] at q1
  rw [own_ngI h] at q2
  rw [← Int32.toInt_inj, own_nI (by omega)]; omega
theorem own_ngLrem {M : Nat} (h : M ≤ 9223372036854775808) : (own_ngL (M / 100) * (100 : Int64) - own_ngL M).toInt32 = own_n (M % 100) := by
  have q1 := c_lmul (own_ngL (M / 100)) 100
  have q2 := c_lsub (own_ngL (M / 100) * 100) (own_ngL M)
  have q3 := c_l2i (own_ngL (M / 100) * (100 : Int64) - own_ngL M)
  have r := rng32 (own_ngL (M / 100) * (100 : Int64) - own_ngL M).toInt32
  rw [show (100 : Int64).toInt = 100 from rfl, own_ngLI (M := M / 100) (by omega)] at q1
  rw [own_ngLI h] at q2
  rw [← Int32.toInt_inj, own_nI (by omega)]; omega
theorem own_ngneg {M : Nat} (h : M < 2147483648) : -own_ng M = own_n M := by
  have q := c_ineg (own_ng M)
  have r := rng32 (-own_ng M)
  rw [own_ngI (by omega)] at q
  rw [← Int32.toInt_inj, own_nI h]; omega
theorem own_ngcast {M : Nat} (h : M < 2147483648) : (own_ngL M).toInt32 = own_ng M := by
  have q := c_l2i (own_ngL M)
  have r := rng32 (own_ngL M).toInt32
  rw [own_ngLI (by omega)] at q
  rw [← Int32.toInt_inj, own_ngI (by omega)]; omega
theorem own_ngof {y : Int32} (h : y < 0) : y = own_ng y.toInt.natAbs := by
  have r := rng32 y
  rw [Int32.lt_iff_toInt_lt, show (0 : Int32).toInt = 0 from rfl] at h
  rw [← Int32.toInt_inj, own_ngI (by omega)]; omega
theorem own_ngof' {y : Int32} (h : ¬ y < 0) : -y = own_ng y.toInt.natAbs := by
  have r := rng32 y
  have e := own_negI h
  rw [Int32.lt_iff_toInt_lt, show (0 : Int32).toInt = 0 from rfl] at h
  rw [← Int32.toInt_inj, own_ngI (by omega), e]; omega
theorem own_ngofL {y : Int64} (h : y < 0) : y = own_ngL y.toInt.natAbs := by
  have r := rng64 y
  rw [Int64.lt_iff_toInt_lt, show (0 : Int64).toInt = 0 from rfl] at h
  rw [← Int64.toInt_inj, own_ngLI (by omega)]; omega
theorem own_ngofL' {y : Int64} (h : ¬ y < 0) : -y = own_ngL y.toInt.natAbs := by
  have r := rng64 y
  have e := own_negL h
  rw [Int64.lt_iff_toInt_lt, show (0 : Int64).toInt = 0 from rfl] at h
  rw [← Int64.toInt_inj, own_ngLI (by omega), e]; omega
theorem own_ngcmp {M : Nat} {c : Int32} (h : M ≤ 2147483648) : c < own_ng M ↔ c.toInt < -(M : Int) := by rw [Int32.lt_iff_toInt_lt, own_ngI h]
theorem own_ngcmpr {M : Nat} {c : Int32} (h : M ≤ 2147483648) : own_ng M < c ↔ -(M : Int) < c.toInt := by rw [Int32.lt_iff_toInt_lt, own_ngI h]
theorem own_ngLcmp {M : Nat} {c : Int64} (h : M ≤ 9223372036854775808) : c < own_ngL M ↔ c.toInt < -(M : Int) := by rw [Int64.lt_iff_toInt_lt, own_ngLI h]
theorem own_ndec {k : Nat} (h : 1 ≤ k) (h2 : k < 2147483648) : own_n k + (-1 : Int32) = own_n (k - 1) := by
  have q := c_iadd (own_n k) (-1)
  have r := rng32 (own_n k + (-1 : Int32))
  rw [own_nI h2, show (-1 : Int32).toInt = -1 from rfl] at q
  rw [← Int32.toInt_inj, own_nI (by omega)]; omega
def own_d1 (r : Nat) : Int32 := own_n (48 + r % 10)
def own_d2 (r : Nat) : Int32 := own_n (48 + r / 10)
def own_dch (M t : Nat) : Int32 := own_n (48 + M / 10 ^ t % 10)
def own_wr (g : Nat → Int32) (cp M i : Nat) : Int32 := if cp - own_dg M ≤ i ∧ i < cp then own_dch M (cp - 1 - i) else g i
theorem own_dchS (M t : Nat) : own_dch (M / 100) t = own_dch M (t + 2) := by
  unfold own_dch
  rw [Nat.div_div_eq_div_mul, show 100 * 10 ^ t = 10 ^ (t + 2) by rw [Nat.pow_add, Nat.mul_comm]]
theorem own_dch0 (M : Nat) : own_dch M 0 = own_n (48 + M % 10) := by unfold own_dch; simp
theorem own_dch1 (M : Nat) : own_dch M 1 = own_n (48 + M / 10 % 10) := by unfold own_dch; simp
theorem own_wrS (g : Nat → Int32) {cp M : Nat} (h : 100 ≤ M) (hc : own_dg M ≤ cp) (i : Nat) : own_wr (own_up (own_up g (cp - 1) (own_d1 (M % 100))) (cp - 1 - 1) (own_d2 (M % 100))) (cp - 1 - 1) (M / 100) i = own_wr g cp M i := by
  have e := own_dg100 h
  have hp := own_dgpos (M / 100)
  unfold own_wr
  rw [e] at hc ⊢
  by_cases c0 : i = cp - 1
  · rw [if_neg (by omega), if_pos (by omega), c0, show cp - 1 - (cp - 1) = 0 by omega, own_dch0]
    unfold own_up
    rw [if_neg (by omega), if_pos rfl]
    unfold own_d1
    rw [show M % 100 % 10 = M % 10 by omega]
  · by_cases c1 : i = cp - 1 - 1
    · rw [if_neg (by omega), if_pos (by omega), c1, show cp - 1 - (cp - 1 - 1) = 1 by omega, own_dch1]
      unfold own_up
      rw [if_pos rfl]
      unfold own_d2
      rw [show M % 100 / 10 = M / 10 % 10 by omega]
    · by_cases c2 : cp - 1 - 1 - own_dg (M / 100) ≤ i ∧ i < cp - 1 - 1
      · rw [if_pos c2, if_pos (by omega), own_dchS, show cp - 1 - 1 - 1 - i + 2 = cp - 1 - i by omega]
      · rw [if_neg c2, if_neg (by omega)]
        unfold own_up
        rw [if_neg c1, if_neg c0]
theorem own_wr1 (g : Nat → Int32) {cp M : Nat} (h : M < 10) (hc : 1 ≤ cp) (i : Nat) : own_up g (cp - 1) (own_d1 M) i = own_wr g cp M i := by
  unfold own_up own_wr
  rw [own_dg1 h]
  by_cases c0 : i = cp - 1
  · rw [if_pos c0, if_pos (by omega), c0, show cp - 1 - (cp - 1) = 0 by omega, own_dch0]; rfl
  · rw [if_neg c0, if_neg (by omega)]
theorem own_wr2 (g : Nat → Int32) {cp M : Nat} (h : 10 ≤ M) (h2 : M < 100) (hc : 2 ≤ cp) (i : Nat) : own_up (own_up g (cp - 1) (own_d1 M)) (cp - 1 - 1) (own_d2 M) i = own_wr g cp M i := by
  unfold own_up own_wr
  rw [own_dgS h, own_dg1 (by omega)]
  by_cases c0 : i = cp - 1
  · rw [if_neg (by omega), if_pos c0, if_pos (by omega), c0, show cp - 1 - (cp - 1) = 0 by omega, own_dch0]; rfl
  · by_cases c1 : i = cp - 1 - 1
    · rw [if_pos c1, if_pos (by omega), c1, show cp - 1 - (cp - 1 - 1) = 1 by omega, own_dch1]
      unfold own_d2; rw [show M / 10 % 10 = M / 10 by omega]
    · rw [if_neg c1, if_neg c0, if_neg (by omega)]
def own_num (z : Int) (i : Nat) : Int32 := if z < 0 ∧ i = 0 then 45 else own_dch z.natAbs (own_sz z - 1 - i)
def own_np : Nat → Int32
  | 0 => -1
  | i + 1 => 10 * own_np i
def own_npL : Nat → Int64
  | 0 => -1
  | i + 1 => 10 * own_npL i
theorem own_npI : ∀ i, i < 10 → (own_np i).toInt = -((10 ^ i : Nat) : Int) := by decide +kernel
theorem own_npLI : ∀ i, i < 19 → (own_npL i).toInt = -((10 ^ i : Nat) : Int) := by decide +kernel
theorem own_npge {i N : Nat} (hi : i < 10) (hN : N ≤ 2147483648) (h : 10 ^ i ≤ N) : ¬ own_np i < own_ng N := by
  rw [Int32.lt_iff_toInt_lt, own_npI i hi, own_ngI hN]; omega
theorem own_nplt {i N : Nat} (hi : i < 10) (hN : N ≤ 2147483648) (h : N < 10 ^ i) : own_np i < own_ng N := by
  rw [Int32.lt_iff_toInt_lt, own_npI i hi, own_ngI hN]; omega
theorem own_npLge {i N : Nat} (hi : i < 19) (hN : N ≤ 9223372036854775808) (h : 10 ^ i ≤ N) : ¬ own_npL i < own_ngL N := by
  rw [Int64.lt_iff_toInt_lt, own_npLI i hi, own_ngLI hN]; omega
theorem own_npLlt {i N : Nat} (hi : i < 19) (hN : N ≤ 9223372036854775808) (h : N < 10 ^ i) : own_npL i < own_ngL N := by
  rw [Int64.lt_iff_toInt_lt, own_npLI i hi, own_ngLI hN]; omega
theorem own_dgd {i N : Nat} (h1 : 1 ≤ i) (h2 : i < own_dg N) : 10 ^ i ≤ N := Nat.le_of_not_lt fun q => Nat.lt_irrefl _ (Nat.lt_of_lt_of_le h2 ((own_dglt h1).mpr q))
theorem D_rmIS : oL jdk_33_method_13_code [(0, .iconst 1, 1), (1, .istore_n 1, 1), (2, .iload_n 0, 1), (3, .ifCond .lt 8, 3), (11, .bipush (-10), 2), (13, .istore_n 2, 1), (14, .iconst 1, 1), (15, .istore_n 3, 1), (16, .iload_n 3, 1), (17, .bipush 10, 2), (19, .if_icmp .ge 23, 3), (22, .iload_n 0, 1), (23, .iload_n 2, 1), (24, .if_icmp .le 7, 3), (31, .bipush 10, 2), (33, .iload_n 2, 1), (34, .imul, 1), (35, .istore_n 2, 1), (36, .iinc 3 1, 3), (39, .goto (-23), 3), (27, .iload_n 3, 1), (28, .iload_n 1, 1), (29, .iadd, 1), (30, .ireturn, 1), (42, .bipush 10, 2), (44, .iload_n 1, 1), (45, .iadd, 1), (46, .ireturn, 1), (6, .iconst 0, 1), (7, .istore_n 1, 1), (8, .iload_n 0, 1), (9, .ineg, 1), (10, .istore_n 0, 1)] := by decide +kernel
theorem pn_Integer : plainName "java/lang/Integer" = true := by first | (simp [plainName, overriddenIn]; done) | decide +kernel
def QrmIS (Z : State) (y : Int32) (h0 : Heap) (n0 : Nat) (v : Option Value) (h : Heap) (L : List Loc) : Prop := v = some (.int (own_n (own_sz y.toInt))) ∧ Fr n0 L ∧ h = h0
theorem rmIS (l : Launch) (Z : State) (av0 : Array Value) (hw : ∀ d ∈ tables_1, d.before av0 Z = true) (ws : List Jvm.Cond) (y : Int32) (h0 : Heap) (n0 : Nat) (Z0 : n0 ≤ h0.size)  :
   own_Met l mN25 jdk_33_method_13_code 4 (some .int) ws ({ frames := 0, cells := 0, slots := 0, locals := 0 } : Room) #[(.int y)] Z h0 (QrmIS Z y h0 n0) := by
 refine MetFree.of_bodySF (plainFor_of_name pn_Integer) hisR ?_
 intro p e s m args below meth c s₁ Bd hml0 hP hK
 obtain ⟨rfl, hZ, hh⟩ := hP
 have hml : c.maxLocals = 4 := hml0
 obtain ⟨hx, hby, hown, hnm, X0, e0⟩ := own_start Bd hml0 hh
 have N0 := Fr.nil n0
 have Y := @oY _ _ _ hby D_rmIS
 obtain ⟨P0, in0, pre0⟩ : ∃ P : State → Prop, (∀ tz, oS p e below s₁ (mkF m 0 #[iv y, .unset, .unset, .unset] []) tz → P tz) ∧ ∀ tz, P tz → Steps p.tables e below (s₁.setTop (entryFrame m #[(.int y)] 4)) tz := ⟨_, fun _ kz => kz, fun tz kz => castTop (by first | (simp [entryFrame, mkF, argsToLocals, Value.category]; done) | rfl) kz⟩
 obtain ⟨N, hN⟩ : ∃ N, N = y.toInt.natAbs := ⟨_, rfl⟩
 have hrg := rng32 y
 have hNb : N ≤ 2147483648 := by omega
 obtain ⟨Dg, hDg⟩ : ∃ z, z = own_dg N := ⟨_, rfl⟩
 have hpD : 1 ≤ Dg := by rw [hDg]; exact own_dgpos N
 have hDle : Dg ≤ 10 := by rw [hDg]; exact (own_dglt (by decide)).mpr (by omega)
 have S1 : ∀ tz, oS p e below s₁ (mkF m 3 #[iv y, iv 1, .unset, .unset] [(.int y)]) tz → P0 tz := fun tz kz => in0 tz (by
  refine XT.iconstV X0.here hx rfl (1 : Int32) (Y 0 rfl) (by decide) ?_
  refine XS.istoreN X0.here hx rfl (Y 1 rfl) rfl (l' := #[iv y, iv 1, .unset, .unset]) rfl ?_
  refine XS.iloadN X0.here hx rfl (Y 2 rfl) rfl ?_
  exact kz)
 by_cases hc3_2 : y < (0 : Int32)
 ·have hz : y.toInt < 0 := own_gtT (k := y.toInt) (z := 0) hc3_2 rfl rfl
  have hy0 : y = own_ng N := by rw [hN]; exact own_ngof hc3_2
  have hsz : own_sz y.toInt = Dg + 1 := by unfold own_sz; rw [if_pos hz, hDg, hN]
  have S3 : ∀ tz, oS p e below s₁ (mkF m 16 #[iv (own_ng N), iv 1, iv (own_np 1), iv 1] []) tz → P0 tz := fun tz kz => S1 tz (by
   refine XS.ifYes X0.here hx rfl (pc0 := 3) (pc' := 11) rfl (Y 3 rfl) rfl (XT.i0_lt_t hc3_2) (by decide) (by decide) ?_
   refine XT.bipushV X0.here hx rfl (-10 : Int32) (Y 4 rfl) (by decide) ?_
   refine XS.istoreN X0.here hx rfl (Y 5 rfl) rfl (l' := #[iv y, iv 1, iv (-10 : Int32), .unset]) rfl ?_
   refine XT.iconstV X0.here hx rfl (1 : Int32) (Y 6 rfl) (by decide) ?_
   refine XS.istoreN X0.here hx rfl (Y 7 rfl) rfl (l' := #[iv y, iv 1, iv (-10 : Int32), iv 1]) rfl ?_
   show oS p e below s₁ (mkF m 16 #[iv y, iv 1, iv (-10 : Int32), iv 1] []) _
   rw [hy0]
   show oS p e below s₁ (mkF m 16 #[iv (own_ng N), iv 1, iv (-10 : Int32), iv 1] []) _
   rw [show (-10 : Int32) = own_np 1 from by decide]
   show oS p e below s₁ (mkF m 16 #[iv (own_ng N), iv 1, iv (own_np 1), iv 1] []) _
   exact kz)
  have tu : ∀ ii, 1 ≤ ii → ii < Dg → ∀ tz, oS p e below s₁ (mkF m 16 #[iv (own_ng N), iv 1, iv ((own_np (ii + 1))), iv ((own_n (ii + 1)))] []) tz → oS p e below s₁ (mkF m 16 #[iv (own_ng N), iv 1, iv (own_np ii), iv (own_n ii)] []) tz := by
   intro ii hi1 hi2 tz kz
   have h10 : 10 ^ ii ≤ N := own_dgd hi1 (by rw [← hDg]; exact hi2)
   have S4 : ∀ tz, oS p e below s₁ (mkF m 16 #[iv (own_ng N), iv 1, iv ((own_np (ii + 1))), iv ((own_n (ii + 1)))] []) tz → oS p e below s₁ (mkF m 16 #[iv (own_ng N), iv 1, iv (own_np ii), iv (own_n ii)] []) tz := fun tz kz => id (by
    refine XS.iloadN X0.here hx rfl (Y 8 rfl) rfl ?_
    refine XT.bipushV X0.here hx rfl (10 : Int32) (Y 9 rfl) (by decide) ?_
    refine XS.icmpNo X0.here hx rfl (Y 10 rfl) rfl (XT.ii_ge_f ((own_cmpN (x := ii) (y := 10) (by omega) (by decide)).mpr (by omega))) ?_
    refine XS.iloadN X0.here hx rfl (Y 11 rfl) rfl ?_
    refine XS.iloadN X0.here hx rfl (Y 12 rfl) rfl ?_
    refine XS.icmpYes X0.here hx rfl (pc0 := 24) (pc' := 31) rfl (Y 13 rfl) rfl (XT.ii_le_t (own_npge (by omega) hNb h10)) (by decide) (by decide) ?_
    refine XT.bipushV X0.here hx rfl (10 : Int32) (Y 14 rfl) (by decide) ?_
    refine XS.iloadN X0.here hx rfl (Y 15 rfl) rfl ?_
    refine XS.imul X0.here hx rfl (Y 16 rfl) rfl ?_
    show oS p e below s₁ (mkF m 35 #[iv (own_ng N), iv 1, iv (own_np ii), iv (own_n ii)] [(.int ((10 : Int32) * (own_np ii)))]) _
    rw [show (10 : Int32) * own_np ii = own_np (ii + 1) from rfl]
    show oS p e below s₁ (mkF m 35 #[iv (own_ng N), iv 1, iv (own_np ii), iv (own_n ii)] [(.int (own_np (ii + 1)))]) _
    refine XS.istoreN X0.here hx rfl (Y 17 rfl) rfl (l' := #[iv (own_ng N), iv 1, iv ((own_np (ii + 1))), iv (own_n ii)]) rfl ?_
    refine XT.iincV X0.here hx rfl (1 : Int32) (Y 18 rfl) (by decide) rfl (l' := #[iv (own_ng N), iv 1, iv ((own_np (ii + 1))), iv (((own_n ii) + (1 : Int32)))]) rfl ?_
    show oS p e below s₁ (mkF m 39 #[iv (own_ng N), iv 1, iv ((own_np (ii + 1))), iv (((own_n ii) + (1 : Int32)))] []) _
    rw [own_nadd (by omega)]
    show oS p e below s₁ (mkF m 39 #[iv (own_ng N), iv 1, iv ((own_np (ii + 1))), iv ((own_n (ii + 1)))] []) _
    refine XS.goto X0.here hx rfl (pc0 := 39) (pc' := 16) rfl (Y 19 rfl) (by decide) (by decide) ?_
    exact kz)
   exact S4 tz kz
  have lo : ∀ k ii, 1 ≤ ii → ii + k = Dg → ∀ tz, oS p e below s₁ (mkF m 16 #[iv (own_ng N), iv 1, iv (own_np Dg), iv (own_n Dg)] []) tz → oS p e below s₁ (mkF m 16 #[iv (own_ng N), iv 1, iv (own_np ii), iv (own_n ii)] []) tz := by
   intro k
   induction k with
   | zero => intro ii h1 h2 tz kz; rw [show ii = Dg by omega]; exact kz
   | succ k ih => intro ii h1 h2 tz kz; exact tu ii h1 (by omega) tz (ih (ii + 1) (by omega) (by omega) tz kz)
  have S5 : ∀ tz, oS p e below s₁ (mkF m 19 #[iv (own_ng N), iv 1, iv (own_np Dg), iv (own_n Dg)] [(.int 10), (.int (own_n Dg))]) tz → P0 tz := fun tz kz => S3 tz (by
   refine lo (Dg - 1) 1 (Nat.le_refl _) (by omega) _ ?_
   show oS p e below s₁ (mkF m 16 #[iv (own_ng N), iv 1, iv (own_np Dg), iv (own_n Dg)] []) _
   refine XS.iloadN X0.here hx rfl (Y 8 rfl) rfl ?_
   refine XT.bipushV X0.here hx rfl (10 : Int32) (Y 9 rfl) (by decide) ?_
   exact kz)
  by_cases hc19_6 : (own_n Dg) < (10 : Int32)
  ·have hD18 : Dg < 10 := (own_cmpN (x := Dg) (y := 10) (by omega) (by decide)).mp hc19_6
   have S7 : ∀ tz, oS p e below s₁ (mkF m 30 #[iv (own_ng N), iv 1, iv (own_np Dg), iv (own_n Dg)] [(.int ((own_n Dg) + (1 : Int32)))]) tz → P0 tz := fun tz kz => S5 tz (by
    refine XS.icmpNo X0.here hx rfl (Y 10 rfl) rfl (XT.ii_ge_f hc19_6) ?_
    refine XS.iloadN X0.here hx rfl (Y 11 rfl) rfl ?_
    refine XS.iloadN X0.here hx rfl (Y 12 rfl) rfl ?_
    refine XS.icmpNo X0.here hx rfl (Y 13 rfl) rfl (XT.ii_le_f (own_nplt hD18 hNb ((own_dglt hpD).mp (Nat.le_of_eq hDg.symm)))) ?_
    refine XS.iloadN X0.here hx rfl (Y 20 rfl) rfl ?_
    refine XS.iloadN X0.here hx rfl (Y 21 rfl) rfl ?_
    refine XS.iadd X0.here hx rfl (Y 22 rfl) rfl ?_
    show oS p e below s₁ (mkF m 30 #[iv (own_ng N), iv 1, iv (own_np Dg), iv (own_n Dg)] [(.int ((own_n Dg) + (1 : Int32)))]) _
    exact kz)
   obtain ⟨fs, hr, hrun, hended, hW, hsame⟩ := X0.leave (v := some (.int ((own_n Dg) + (1 : Int32)))) (fun h => by rw [Bd.returns] at h; cases h)
   refine ⟨_, _, pre0 _ (S7 _ ?_), hrun, hended, _, _, rfl, ?_, ⟨_, rfl⟩, hW, hsame.mono (by decide) (by decide)⟩
   · exact retI X0 hx Bd.returns (Y 23 rfl) hr
   · show QrmIS Z y h0 n0 _ s₁.heap _
     rw [e0]
     exact ⟨congrArg (fun z => some (Value.int z)) (by rw [hsz]; exact own_nadd (by omega)), N0, rfl⟩
  ·have S8 : ∀ tz, oS p e below s₁ (mkF m 46 #[iv (own_ng N), iv 1, iv (own_np Dg), iv (own_n Dg)] [(.int 11)]) tz → P0 tz := fun tz kz => S5 tz (by
    refine XS.icmpYes X0.here hx rfl (pc0 := 19) (pc' := 42) rfl (Y 10 rfl) rfl (XT.ii_ge_t hc19_6) (by decide) (by decide) ?_
    refine XT.bipushV X0.here hx rfl (10 : Int32) (Y 24 rfl) (by decide) ?_
    refine XS.iloadN X0.here hx rfl (Y 25 rfl) rfl ?_
    refine XS.iadd X0.here hx rfl (Y 26 rfl) rfl ?_
    exact kz)
   obtain ⟨fs, hr, hrun, hended, hW, hsame⟩ := X0.leave (v := some (.int 11)) (fun h => by rw [Bd.returns] at h; cases h)
   refine ⟨_, _, pre0 _ (S8 _ ?_), hrun, hended, _, _, rfl, ?_, ⟨_, rfl⟩, hW, hsame.mono (by decide) (by decide)⟩
   · exact retI X0 hx Bd.returns (Y 27 rfl) hr
   · show QrmIS Z y h0 n0 _ s₁.heap _
     rw [e0]
     exact ⟨congrArg (fun z => some (Value.int z)) (by rw [hsz, show Dg = 10 from Nat.le_antisymm hDle (Nat.le_of_not_lt fun q => hc19_6 ((own_cmpN (x := Dg) (y := 10) (by omega) (by decide)).mpr q))]; rfl), N0, rfl⟩
 ·have hz : ¬ y.toInt < 0 := by have := own_gtF (k := y.toInt) (z := 0) hc3_2 rfl rfl; omega
  have hy0 : -y = own_ng N := by rw [hN]; exact own_ngof' hc3_2
  have hsz : own_sz y.toInt = Dg := by unfold own_sz; rw [if_neg hz, hDg, hN]; rfl
  have S9 : ∀ tz, oS p e below s₁ (mkF m 16 #[iv (own_ng N), iv 0, iv (own_np 1), iv 1] []) tz → P0 tz := fun tz kz => S1 tz (by
   refine XS.ifNo X0.here hx rfl (Y 3 rfl) rfl (XT.i0_lt_f hc3_2) ?_
   refine XT.iconstV X0.here hx rfl (0 : Int32) (Y 28 rfl) (by decide) ?_
   refine XS.istoreN X0.here hx rfl (Y 29 rfl) rfl (l' := #[iv y, iv 0, .unset, .unset]) rfl ?_
   refine XS.iloadN X0.here hx rfl (Y 30 rfl) rfl ?_
   refine XS.ineg X0.here hx rfl (Y 31 rfl) rfl ?_
   refine XS.istoreN X0.here hx rfl (Y 32 rfl) rfl (l' := #[iv (-y), iv 0, .unset, .unset]) rfl ?_
   refine XT.bipushV X0.here hx rfl (-10 : Int32) (Y 4 rfl) (by decide) ?_
   show oS p e below s₁ (mkF m 13 #[iv (-y), iv 0, .unset, .unset] [(.int (-10))]) _
   refine XS.istoreN X0.here hx rfl (Y 5 rfl) rfl (l' := #[iv (-y), iv 0, iv (-10 : Int32), .unset]) rfl ?_
   refine XT.iconstV X0.here hx rfl (1 : Int32) (Y 6 rfl) (by decide) ?_
   refine XS.istoreN X0.here hx rfl (Y 7 rfl) rfl (l' := #[iv (-y), iv 0, iv (-10 : Int32), iv 1]) rfl ?_
   show oS p e below s₁ (mkF m 16 #[iv (-y), iv 0, iv (-10 : Int32), iv 1] []) _
   rw [hy0]
   show oS p e below s₁ (mkF m 16 #[iv (own_ng N), iv 0, iv (-10 : Int32), iv 1] []) _
   rw [show (-10 : Int32) = own_np 1 from by decide]
   show oS p e below s₁ (mkF m 16 #[iv (own_ng N), iv 0, iv (own_np 1), iv 1] []) _
   exact kz)
  have tu : ∀ ii, 1 ≤ ii → ii < Dg → ∀ tz, oS p e below s₁ (mkF m 16 #[iv (own_ng N), iv 0, iv ((own_np (ii + 1))), iv ((own_n (ii + 1)))] []) tz → oS p e below s₁ (mkF m 16 #[iv (own_ng N), iv 0, iv (own_np ii), iv (own_n ii)] []) tz := by
   intro ii hi1 hi2 tz kz
   have h10 : 10 ^ ii ≤ N := own_dgd hi1 (by rw [← hDg]; exact hi2)
   have S10 : ∀ tz, oS p e below s₁ (mkF m 16 #[iv (own_ng N), iv 0, iv ((own_np (ii + 1))), iv ((own_n (ii + 1)))] []) tz → oS p e below s₁ (mkF m 16 #[iv (own_ng N), iv 0, iv (own_np ii), iv (own_n ii)] []) tz := fun tz kz => id (by
    refine XS.iloadN X0.here hx rfl (Y 8 rfl) rfl ?_
    refine XT.bipushV X0.here hx rfl (10 : Int32) (Y 9 rfl) (by decide) ?_
    refine XS.icmpNo X0.here hx rfl (Y 10 rfl) rfl (XT.ii_ge_f ((own_cmpN (x := ii) (y := 10) (by omega) (by decide)).mpr (by omega))) ?_
    refine XS.iloadN X0.here hx rfl (Y 11 rfl) rfl ?_
    refine XS.iloadN X0.here hx rfl (Y 12 rfl) rfl ?_
    show oS p e below s₁ (mkF m 24 #[iv (own_ng N), iv 0, iv (own_np ii), iv (own_n ii)] [(.int (own_np ii)), (.int (own_ng N))]) _
    refine XS.icmpYes X0.here hx rfl (pc0 := 24) (pc' := 31) rfl (Y 13 rfl) rfl (XT.ii_le_t (own_npge (by omega) hNb h10)) (by decide) (by decide) ?_
    refine XT.bipushV X0.here hx rfl (10 : Int32) (Y 14 rfl) (by decide) ?_
    refine XS.iloadN X0.here hx rfl (Y 15 rfl) rfl ?_
    refine XS.imul X0.here hx rfl (Y 16 rfl) rfl ?_
    show oS p e below s₁ (mkF m 35 #[iv (own_ng N), iv 0, iv (own_np ii), iv (own_n ii)] [(.int ((10 : Int32) * (own_np ii)))]) _
    rw [show (10 : Int32) * own_np ii = own_np (ii + 1) from rfl]
    show oS p e below s₁ (mkF m 35 #[iv (own_ng N), iv 0, iv (own_np ii), iv (own_n ii)] [(.int (own_np (ii + 1)))]) _
    refine XS.istoreN X0.here hx rfl (Y 17 rfl) rfl (l' := #[iv (own_ng N), iv 0, iv ((own_np (ii + 1))), iv (own_n ii)]) rfl ?_
    refine XT.iincV X0.here hx rfl (1 : Int32) (Y 18 rfl) (by decide) rfl (l' := #[iv (own_ng N), iv 0, iv ((own_np (ii + 1))), iv (((own_n ii) + (1 : Int32)))]) rfl ?_
    show oS p e below s₁ (mkF m 39 #[iv (own_ng N), iv 0, iv ((own_np (ii + 1))), iv (((own_n ii) + (1 : Int32)))] []) _
    rw [own_nadd (by omega)]
    show oS p e below s₁ (mkF m 39 #[iv (own_ng N), iv 0, iv ((own_np (ii + 1))), iv ((own_n (ii + 1)))] []) _
    refine XS.goto X0.here hx rfl (pc0 := 39) (pc' := 16) rfl (Y 19 rfl) (by decide) (by decide) ?_
    exact kz)
   exact S10 tz kz
  have lo : ∀ k ii, 1 ≤ ii → ii + k = Dg → ∀ tz, oS p e below s₁ (mkF m 16 #[iv (own_ng N), iv 0, iv (own_np Dg), iv (own_n Dg)] []) tz → oS p e below s₁ (mkF m 16 #[iv (own_ng N), iv 0, iv (own_np ii), iv (own_n ii)] []) tz := by
   intro k
   induction k with
   | zero => intro ii h1 h2 tz kz; rw [show ii = Dg by omega]; exact kz
   | succ k ih => intro ii h1 h2 tz kz; exact tu ii h1 (by omega) tz (ih (ii + 1) (by omega) (by omega) tz kz)
  have S11 : ∀ tz, oS p e below s₁ (mkF m 19 #[iv (own_ng N), iv 0, iv (own_np Dg), iv (own_n Dg)] [(.int 10), (.int (own_n Dg))]) tz → P0 tz := fun tz kz => S9 tz (by
   refine lo (Dg - 1) 1 (Nat.le_refl _) (by omega) _ ?_
   show oS p e below s₁ (mkF m 16 #[iv (own_ng N), iv 0, iv (own_np Dg), iv (own_n Dg)] []) _
   refine XS.iloadN X0.here hx rfl (Y 8 rfl) rfl ?_
   refine XT.bipushV X0.here hx rfl (10 : Int32) (Y 9 rfl) (by decide) ?_
   exact kz)
  by_cases hc19_12 : (own_n Dg) < (10 : Int32)
  ·have hD18 : Dg < 10 := (own_cmpN (x := Dg) (y := 10) (by omega) (by decide)).mp hc19_12
   have S13 : ∀ tz, oS p e below s₁ (mkF m 30 #[iv (own_ng N), iv 0, iv (own_np Dg), iv (own_n Dg)] [(.int ((own_n Dg) + (0 : Int32)))]) tz → P0 tz := fun tz kz => S11 tz (by
    refine XS.icmpNo X0.here hx rfl (Y 10 rfl) rfl (XT.ii_ge_f hc19_12) ?_
    refine XS.iloadN X0.here hx rfl (Y 11 rfl) rfl ?_
    show oS p e below s₁ (mkF m 23 #[iv (own_ng N), iv 0, iv (own_np Dg), iv (own_n Dg)] [(.int (own_ng N))]) _
    refine XS.iloadN X0.here hx rfl (Y 12 rfl) rfl ?_
    refine XS.icmpNo X0.here hx rfl (Y 13 rfl) rfl (XT.ii_le_f (own_nplt hD18 hNb ((own_dglt hpD).mp (Nat.le_of_eq hDg.symm)))) ?_
    refine XS.iloadN X0.here hx rfl (Y 20 rfl) rfl ?_
    refine XS.iloadN X0.here hx rfl (Y 21 rfl) rfl ?_
    refine XS.iadd X0.here hx rfl (Y 22 rfl) rfl ?_
    exact kz)
   obtain ⟨fs, hr, hrun, hended, hW, hsame⟩ := X0.leave (v := some (.int ((own_n Dg) + (0 : Int32)))) (fun h => by rw [Bd.returns] at h; cases h)
   refine ⟨_, _, pre0 _ (S13 _ ?_), hrun, hended, _, _, rfl, ?_, ⟨_, rfl⟩, hW, hsame.mono (by decide) (by decide)⟩
   · exact retI X0 hx Bd.returns (Y 23 rfl) hr
   · show QrmIS Z y h0 n0 _ s₁.heap _
     rw [e0]
     exact ⟨congrArg (fun z => some (Value.int z)) (by rw [hsz]; exact Int32.add_zero _), N0, rfl⟩
  ·have S14 : ∀ tz, oS p e below s₁ (mkF m 46 #[iv (own_ng N), iv 0, iv (own_np Dg), iv (own_n Dg)] [(.int 10)]) tz → P0 tz := fun tz kz => S11 tz (by
    refine XS.icmpYes X0.here hx rfl (pc0 := 19) (pc' := 42) rfl (Y 10 rfl) rfl (XT.ii_ge_t hc19_12) (by decide) (by decide) ?_
    refine XT.bipushV X0.here hx rfl (10 : Int32) (Y 24 rfl) (by decide) ?_
    show oS p e below s₁ (mkF m 44 #[iv (own_ng N), iv 0, iv (own_np Dg), iv (own_n Dg)] [(.int 10)]) _
    refine XS.iloadN X0.here hx rfl (Y 25 rfl) rfl ?_
    refine XS.iadd X0.here hx rfl (Y 26 rfl) rfl ?_
    exact kz)
   obtain ⟨fs, hr, hrun, hended, hW, hsame⟩ := X0.leave (v := some (.int 10)) (fun h => by rw [Bd.returns] at h; cases h)
   refine ⟨_, _, pre0 _ (S14 _ ?_), hrun, hended, _, _, rfl, ?_, ⟨_, rfl⟩, hW, hsame.mono (by decide) (by decide)⟩
   · exact retI X0 hx Bd.returns (Y 27 rfl) hr
   · show QrmIS Z y h0 n0 _ s₁.heap _
     rw [e0]
     exact ⟨congrArg (fun z => some (Value.int z)) (by rw [hsz, show Dg = 10 from Nat.le_antisymm hDle (Nat.le_of_not_lt fun q => hc19_12 ((own_cmpN (x := Dg) (y := 10) (by omega) (by decide)).mpr q))]; rfl), N0, rfl⟩
theorem D_rmLS : oL jdk_35_method_15_code [(0, .iconst 1, 1), (1, .istore_n 2, 1), (2, .lload_n 0, 1), (3, .lconst 0, 1), (4, .lcmp, 1), (5, .ifCond .lt 8, 3), (13, .ldc2_w 140, 3), (16, .lstore_n 3, 1), (17, .iconst 1, 1), (18, .istore 5, 2), (20, .iload 5, 2), (22, .bipush 19, 2), (24, .if_icmp .ge 26, 3), (27, .lload_n 0, 1), (28, .lload_n 3, 1), (29, .lcmp, 1), (30, .ifCond .le 8, 3), (38, .ldc2_w 53, 3), (41, .lload_n 3, 1), (42, .lmul, 1), (43, .lstore_n 3, 1), (44, .iinc 5 1, 3), (47, .goto (-27), 3), (33, .iload 5, 2), (35, .iload_n 2, 1), (36, .iadd, 1), (37, .ireturn, 1), (50, .bipush 19, 2), (52, .iload_n 2, 1), (53, .iadd, 1), (54, .ireturn, 1), (8, .iconst 0, 1), (9, .istore_n 2, 1), (10, .lload_n 0, 1), (11, .lneg, 1), (12, .lstore_n 0, 1)] := by decide +kernel
theorem pn_Long : plainName "java/lang/Long" = true := by first | (simp [plainName, overriddenIn]; done) | decide +kernel
def QrmLS (Z : State) (y : Int64) (h0 : Heap) (n0 : Nat) (v : Option Value) (h : Heap) (L : List Loc) : Prop := v = some (.int (own_n (own_sz y.toInt))) ∧ Fr n0 L ∧ h = h0
theorem rmLS (l : Launch) (Z : State) (av0 : Array Value) (hw : ∀ d ∈ tables_1, d.before av0 Z = true) (ws : List Jvm.Cond) (y : Int64) (h0 : Heap) (n0 : Nat) (Z0 : n0 ≤ h0.size)  :
   own_Met l mN26 jdk_35_method_15_code 6 (some .int) ws ({ frames := 0, cells := 0, slots := 0, locals := 0 } : Room) #[(.long y)] Z h0 (QrmLS Z y h0 n0) := by
 refine MetFree.of_bodySF (plainFor_of_name pn_Long) hisR ?_
 intro p e s m args below meth c s₁ Bd hml0 hP hK
 obtain ⟨rfl, hZ, hh⟩ := hP
 have hml : c.maxLocals = 6 := hml0
 obtain ⟨hx, hby, hown, hnm, X0, e0⟩ := own_start Bd hml0 hh
 have N0 := Fr.nil n0
 have Y := @oY _ _ _ hby D_rmLS
 obtain ⟨P0, in0, pre0⟩ : ∃ P : State → Prop, (∀ tz, oS p e below s₁ (mkF m 0 #[.val (.long y), .second, .unset, .unset, .unset, .unset] []) tz → P tz) ∧ ∀ tz, P tz → Steps p.tables e below (s₁.setTop (entryFrame m #[(.long y)] 6)) tz := ⟨_, fun _ kz => kz, fun tz kz => castTop (by first | (simp [entryFrame, mkF, argsToLocals, Value.category]; done) | rfl) kz⟩
 obtain ⟨N, hN⟩ : ∃ N, N = y.toInt.natAbs := ⟨_, rfl⟩
 have hrg := rng64 y
 have hNb : N ≤ 9223372036854775808 := by omega
 obtain ⟨Dg, hDg⟩ : ∃ z, z = own_dg N := ⟨_, rfl⟩
 have hpD : 1 ≤ Dg := by rw [hDg]; exact own_dgpos N
 have hDle : Dg ≤ 19 := by rw [hDg]; exact (own_dglt (by decide)).mpr (by omega)
 have S1 : ∀ tz, oS p e below s₁ (mkF m 5 #[.val (.long y), .second, iv 1, .unset, .unset, .unset] [(.int (XT.cmpL y (0 : Int64)))]) tz → P0 tz := fun tz kz => in0 tz (by
  refine XT.iconstV X0.here hx rfl (1 : Int32) (Y 0 rfl) (by decide) ?_
  refine XS.istoreN X0.here hx rfl (Y 1 rfl) rfl (l' := #[.val (.long y), .second, iv 1, .unset, .unset, .unset]) rfl ?_
  refine XT.lloadN X0.here hx rfl (Y 2 rfl) rfl ?_
  refine XT.lconstV X0.here hx rfl (0 : Int64) (Y 3 rfl) (by decide) ?_
  refine XT.lcmp X0.here hx rfl (Y 4 rfl) rfl ?_
  exact kz)
 by_cases hc5_2 : y < (0 : Int64)
 ·have hz : y.toInt < 0 := own_gtTL (k := y.toInt) (z := 0) hc5_2 rfl rfl
  have hy0 : y = own_ngL N := by rw [hN]; exact own_ngofL hc5_2
  have hsz : own_sz y.toInt = Dg + 1 := by unfold own_sz; rw [if_pos hz, hDg, hN]
  have S3 : ∀ tz, oS p e below s₁ (mkF m 20 #[.val (.long (own_ngL N)), .second, iv 1, .val (.long (own_npL 1)), .second, iv 1] []) tz → P0 tz := fun tz kz => S1 tz (by
   refine XS.ifYes X0.here hx rfl (pc0 := 5) (pc' := 13) rfl (Y 5 rfl) rfl (XT.ll_lt_t hc5_2) (by decide) (by decide) ?_
   refine X0.ldc2J hx hown (mvT hZ (oq hw 176 rfl)) rfl (Y 6 rfl) ?_
   refine XT.lstoreN X0.here hx rfl (Y 7 rfl) rfl (l' := #[.val (.long y), .second, iv 1, .val (.long (-10)), .second, .unset]) rfl ?_
   refine XT.iconstV X0.here hx rfl (1 : Int32) (Y 8 rfl) (by decide) ?_
   refine XS.istore X0.here hx rfl (Y 9 rfl) rfl (l' := #[.val (.long y), .second, iv 1, .val (.long (-10)), .second, iv 1]) rfl ?_
   show oS p e below s₁ (mkF m 20 #[.val (.long y), .second, iv 1, .val (.long (-10)), .second, iv 1] []) _
   rw [hy0]
   show oS p e below s₁ (mkF m 20 #[.val (.long (own_ngL N)), .second, iv 1, .val (.long (-10)), .second, iv 1] []) _
   rw [show (-10 : Int64) = own_npL 1 from by decide]
   show oS p e below s₁ (mkF m 20 #[.val (.long (own_ngL N)), .second, iv 1, .val (.long (own_npL 1)), .second, iv 1] []) _
   exact kz)
  have tu : ∀ ii, 1 ≤ ii → ii < Dg → ∀ tz, oS p e below s₁ (mkF m 20 #[.val (.long (own_ngL N)), .second, iv 1, .val (.long (own_npL (ii + 1))), .second, iv ((own_n (ii + 1)))] []) tz → oS p e below s₁ (mkF m 20 #[.val (.long (own_ngL N)), .second, iv 1, .val (.long (own_npL ii)), .second, iv (own_n ii)] []) tz := by
   intro ii hi1 hi2 tz kz
   have h10 : 10 ^ ii ≤ N := own_dgd hi1 (by rw [← hDg]; exact hi2)
   have S4 : ∀ tz, oS p e below s₁ (mkF m 20 #[.val (.long (own_ngL N)), .second, iv 1, .val (.long (own_npL (ii + 1))), .second, iv ((own_n (ii + 1)))] []) tz → oS p e below s₁ (mkF m 20 #[.val (.long (own_ngL N)), .second, iv 1, .val (.long (own_npL ii)), .second, iv (own_n ii)] []) tz := fun tz kz => id (by
    refine XS.iload X0.here hx rfl (Y 10 rfl) rfl ?_
    refine XT.bipushV X0.here hx rfl (19 : Int32) (Y 11 rfl) (by decide) ?_
    refine XS.icmpNo X0.here hx rfl (Y 12 rfl) rfl (XT.ii_ge_f ((own_cmpN (x := ii) (y := 19) (by omega) (by decide)).mpr (by omega))) ?_
    refine XT.lloadN X0.here hx rfl (Y 13 rfl) rfl ?_
    refine XT.lloadN X0.here hx rfl (Y 14 rfl) rfl ?_
    refine XT.lcmp X0.here hx rfl (Y 15 rfl) rfl ?_
    refine XS.ifYes X0.here hx rfl (pc0 := 30) (pc' := 38) rfl (Y 16 rfl) rfl (XT.ll_le_t (own_npLge (by omega) hNb h10)) (by decide) (by decide) ?_
    refine X0.ldc2J hx hown (mvT hZ (oq hw 282 rfl)) rfl (Y 17 rfl) ?_
    show oS p e below s₁ (mkF m 41 #[.val (.long (own_ngL N)), .second, iv 1, .val (.long (own_npL ii)), .second, iv (own_n ii)] [(.long 10)]) _
    refine XT.lloadN X0.here hx rfl (Y 18 rfl) rfl ?_
    refine XT.lmul X0.here hx rfl (Y 19 rfl) rfl ?_
    show oS p e below s₁ (mkF m 43 #[.val (.long (own_ngL N)), .second, iv 1, .val (.long (own_npL ii)), .second, iv (own_n ii)] [(.long ((10 : Int64) * (own_npL ii)))]) _
    rw [show (10 : Int64) * own_npL ii = own_npL (ii + 1) from rfl]
    show oS p e below s₁ (mkF m 43 #[.val (.long (own_ngL N)), .second, iv 1, .val (.long (own_npL ii)), .second, iv (own_n ii)] [(.long (own_npL (ii + 1)))]) _
    refine XT.lstoreN X0.here hx rfl (Y 20 rfl) rfl (l' := #[.val (.long (own_ngL N)), .second, iv 1, .val (.long (own_npL (ii + 1))), .second, iv (own_n ii)]) rfl ?_
    refine XT.iincV X0.here hx rfl (1 : Int32) (Y 21 rfl) (by decide) rfl (l' := #[.val (.long (own_ngL N)), .second, iv 1, .val (.long (own_npL (ii + 1))), .second, iv (((own_n ii) + (1 : Int32)))]) rfl ?_
    show oS p e below s₁ (mkF m 47 #[.val (.long (own_ngL N)), .second, iv 1, .val (.long (own_npL (ii + 1))), .second, iv (((own_n ii) + (1 : Int32)))] []) _
    rw [own_nadd (by omega)]
    show oS p e below s₁ (mkF m 47 #[.val (.long (own_ngL N)), .second, iv 1, .val (.long (own_npL (ii + 1))), .second, iv ((own_n (ii + 1)))] []) _
    refine XS.goto X0.here hx rfl (pc0 := 47) (pc' := 20) rfl (Y 22 rfl) (by decide) (by decide) ?_
    exact kz)
   exact S4 tz kz
  have lo : ∀ k ii, 1 ≤ ii → ii + k = Dg → ∀ tz, oS p e below s₁ (mkF m 20 #[.val (.long (own_ngL N)), .second, iv 1, .val (.long (own_npL Dg)), .second, iv (own_n Dg)] []) tz → oS p e below s₁ (mkF m 20 #[.val (.long (own_ngL N)), .second, iv 1, .val (.long (own_npL ii)), .second, iv (own_n ii)] []) tz := by
   intro k
   induction k with
   | zero => intro ii h1 h2 tz kz; rw [show ii = Dg by omega]; exact kz
   | succ k ih => intro ii h1 h2 tz kz; exact tu ii h1 (by omega) tz (ih (ii + 1) (by omega) (by omega) tz kz)
  have S5 : ∀ tz, oS p e below s₁ (mkF m 24 #[.val (.long (own_ngL N)), .second, iv 1, .val (.long (own_npL Dg)), .second, iv (own_n Dg)] [(.int 19), (.int (own_n Dg))]) tz → P0 tz := fun tz kz => S3 tz (by
   refine lo (Dg - 1) 1 (Nat.le_refl _) (by omega) _ ?_
   show oS p e below s₁ (mkF m 20 #[.val (.long (own_ngL N)), .second, iv 1, .val (.long (own_npL Dg)), .second, iv (own_n Dg)] []) _
   refine XS.iload X0.here hx rfl (Y 10 rfl) rfl ?_
   refine XT.bipushV X0.here hx rfl (19 : Int32) (Y 11 rfl) (by decide) ?_
   exact kz)
  by_cases hc24_6 : (own_n Dg) < (19 : Int32)
  ·have hD18 : Dg < 19 := (own_cmpN (x := Dg) (y := 19) (by omega) (by decide)).mp hc24_6
   have S7 : ∀ tz, oS p e below s₁ (mkF m 37 #[.val (.long (own_ngL N)), .second, iv 1, .val (.long (own_npL Dg)), .second, iv (own_n Dg)] [(.int ((own_n Dg) + (1 : Int32)))]) tz → P0 tz := fun tz kz => S5 tz (by
    refine XS.icmpNo X0.here hx rfl (Y 12 rfl) rfl (XT.ii_ge_f hc24_6) ?_
    refine XT.lloadN X0.here hx rfl (Y 13 rfl) rfl ?_
    refine XT.lloadN X0.here hx rfl (Y 14 rfl) rfl ?_
    refine XT.lcmp X0.here hx rfl (Y 15 rfl) rfl ?_
    refine XS.ifNo X0.here hx rfl (Y 16 rfl) rfl (XT.ll_le_f (own_npLlt hD18 hNb ((own_dglt hpD).mp (Nat.le_of_eq hDg.symm)))) ?_
    show oS p e below s₁ (mkF m 33 #[.val (.long (own_ngL N)), .second, iv 1, .val (.long (own_npL Dg)), .second, iv (own_n Dg)] []) _
    refine XS.iload X0.here hx rfl (Y 23 rfl) rfl ?_
    refine XS.iloadN X0.here hx rfl (Y 24 rfl) rfl ?_
    refine XS.iadd X0.here hx rfl (Y 25 rfl) rfl ?_
    exact kz)
   obtain ⟨fs, hr, hrun, hended, hW, hsame⟩ := X0.leave (v := some (.int ((own_n Dg) + (1 : Int32)))) (fun h => by rw [Bd.returns] at h; cases h)
   refine ⟨_, _, pre0 _ (S7 _ ?_), hrun, hended, _, _, rfl, ?_, ⟨_, rfl⟩, hW, hsame.mono (by decide) (by decide)⟩
   · exact retI X0 hx Bd.returns (Y 26 rfl) hr
   · show QrmLS Z y h0 n0 _ s₁.heap _
     rw [e0]
     exact ⟨congrArg (fun z => some (Value.int z)) (by rw [hsz]; exact own_nadd (by omega)), N0, rfl⟩
  ·have S8 : ∀ tz, oS p e below s₁ (mkF m 54 #[.val (.long (own_ngL N)), .second, iv 1, .val (.long (own_npL Dg)), .second, iv (own_n Dg)] [(.int 20)]) tz → P0 tz := fun tz kz => S5 tz (by
    refine XS.icmpYes X0.here hx rfl (pc0 := 24) (pc' := 50) rfl (Y 12 rfl) rfl (XT.ii_ge_t hc24_6) (by decide) (by decide) ?_
    refine XT.bipushV X0.here hx rfl (19 : Int32) (Y 27 rfl) (by decide) ?_
    refine XS.iloadN X0.here hx rfl (Y 28 rfl) rfl ?_
    refine XS.iadd X0.here hx rfl (Y 29 rfl) rfl ?_
    exact kz)
   obtain ⟨fs, hr, hrun, hended, hW, hsame⟩ := X0.leave (v := some (.int 20)) (fun h => by rw [Bd.returns] at h; cases h)
   refine ⟨_, _, pre0 _ (S8 _ ?_), hrun, hended, _, _, rfl, ?_, ⟨_, rfl⟩, hW, hsame.mono (by decide) (by decide)⟩
   · exact retI X0 hx Bd.returns (Y 30 rfl) hr
   · show QrmLS Z y h0 n0 _ s₁.heap _
     rw [e0]
     exact ⟨congrArg (fun z => some (Value.int z)) (by rw [hsz, show Dg = 19 from Nat.le_antisymm hDle (Nat.le_of_not_lt fun q => hc24_6 ((own_cmpN (x := Dg) (y := 19) (by omega) (by decide)).mpr q))]; rfl), N0, rfl⟩
 ·have hz : ¬ y.toInt < 0 := by have := own_gtFL (k := y.toInt) (z := 0) hc5_2 rfl rfl; omega
  have hy0 : -y = own_ngL N := by rw [hN]; exact own_ngofL' hc5_2
  have hsz : own_sz y.toInt = Dg := by unfold own_sz; rw [if_neg hz, hDg, hN]; rfl
  have S9 : ∀ tz, oS p e below s₁ (mkF m 20 #[.val (.long (own_ngL N)), .second, iv 0, .val (.long (own_npL 1)), .second, iv 1] []) tz → P0 tz := fun tz kz => S1 tz (by
   refine XS.ifNo X0.here hx rfl (Y 5 rfl) rfl (XT.ll_lt_f hc5_2) ?_
   refine XT.iconstV X0.here hx rfl (0 : Int32) (Y 31 rfl) (by decide) ?_
   refine XS.istoreN X0.here hx rfl (Y 32 rfl) rfl (l' := #[.val (.long y), .second, iv 0, .unset, .unset, .unset]) rfl ?_
   refine XT.lloadN X0.here hx rfl (Y 33 rfl) rfl ?_
   refine XT.lneg X0.here hx rfl (Y 34 rfl) rfl ?_
   show oS p e below s₁ (mkF m 12 #[.val (.long y), .second, iv 0, .unset, .unset, .unset] [(.long (-y))]) _
   refine XT.lstoreN X0.here hx rfl (Y 35 rfl) rfl (l' := #[.val (.long (-y)), .second, iv 0, .unset, .unset, .unset]) rfl ?_
   refine X0.ldc2J hx hown (mvT hZ (oq hw 176 rfl)) rfl (Y 6 rfl) ?_
   refine XT.lstoreN X0.here hx rfl (Y 7 rfl) rfl (l' := #[.val (.long (-y)), .second, iv 0, .val (.long (-10)), .second, .unset]) rfl ?_
   refine XT.iconstV X0.here hx rfl (1 : Int32) (Y 8 rfl) (by decide) ?_
   refine XS.istore X0.here hx rfl (Y 9 rfl) rfl (l' := #[.val (.long (-y)), .second, iv 0, .val (.long (-10)), .second, iv 1]) rfl ?_
   show oS p e below s₁ (mkF m 20 #[.val (.long (-y)), .second, iv 0, .val (.long (-10)), .second, iv 1] []) _
   rw [hy0]
   show oS p e below s₁ (mkF m 20 #[.val (.long (own_ngL N)), .second, iv 0, .val (.long (-10)), .second, iv 1] []) _
   rw [show (-10 : Int64) = own_npL 1 from by decide]
   show oS p e below s₁ (mkF m 20 #[.val (.long (own_ngL N)), .second, iv 0, .val (.long (own_npL 1)), .second, iv 1] []) _
   exact kz)
  have tu : ∀ ii, 1 ≤ ii → ii < Dg → ∀ tz, oS p e below s₁ (mkF m 20 #[.val (.long (own_ngL N)), .second, iv 0, .val (.long (own_npL (ii + 1))), .second, iv ((own_n (ii + 1)))] []) tz → oS p e below s₁ (mkF m 20 #[.val (.long (own_ngL N)), .second, iv 0, .val (.long (own_npL ii)), .second, iv (own_n ii)] []) tz := by
   intro ii hi1 hi2 tz kz
   have h10 : 10 ^ ii ≤ N := own_dgd hi1 (by rw [← hDg]; exact hi2)
   have S10 : ∀ tz, oS p e below s₁ (mkF m 20 #[.val (.long (own_ngL N)), .second, iv 0, .val (.long (own_npL (ii + 1))), .second, iv ((own_n (ii + 1)))] []) tz → oS p e below s₁ (mkF m 20 #[.val (.long (own_ngL N)), .second, iv 0, .val (.long (own_npL ii)), .second, iv (own_n ii)] []) tz := fun tz kz => id (by
    refine XS.iload X0.here hx rfl (Y 10 rfl) rfl ?_
    refine XT.bipushV X0.here hx rfl (19 : Int32) (Y 11 rfl) (by decide) ?_
    refine XS.icmpNo X0.here hx rfl (Y 12 rfl) rfl (XT.ii_ge_f ((own_cmpN (x := ii) (y := 19) (by omega) (by decide)).mpr (by omega))) ?_
    show oS p e below s₁ (mkF m 27 #[.val (.long (own_ngL N)), .second, iv 0, .val (.long (own_npL ii)), .second, iv (own_n ii)] []) _
    refine XT.lloadN X0.here hx rfl (Y 13 rfl) rfl ?_
    refine XT.lloadN X0.here hx rfl (Y 14 rfl) rfl ?_
    refine XT.lcmp X0.here hx rfl (Y 15 rfl) rfl ?_
    refine XS.ifYes X0.here hx rfl (pc0 := 30) (pc' := 38) rfl (Y 16 rfl) rfl (XT.ll_le_t (own_npLge (by omega) hNb h10)) (by decide) (by decide) ?_
    refine X0.ldc2J hx hown (mvT hZ (oq hw 282 rfl)) rfl (Y 17 rfl) ?_
    refine XT.lloadN X0.here hx rfl (Y 18 rfl) rfl ?_
    refine XT.lmul X0.here hx rfl (Y 19 rfl) rfl ?_
    show oS p e below s₁ (mkF m 43 #[.val (.long (own_ngL N)), .second, iv 0, .val (.long (own_npL ii)), .second, iv (own_n ii)] [(.long ((10 : Int64) * (own_npL ii)))]) _
    rw [show (10 : Int64) * own_npL ii = own_npL (ii + 1) from rfl]
    show oS p e below s₁ (mkF m 43 #[.val (.long (own_ngL N)), .second, iv 0, .val (.long (own_npL ii)), .second, iv (own_n ii)] [(.long (own_npL (ii + 1)))]) _
    refine XT.lstoreN X0.here hx rfl (Y 20 rfl) rfl (l' := #[.val (.long (own_ngL N)), .second, iv 0, .val (.long (own_npL (ii + 1))), .second, iv (own_n ii)]) rfl ?_
    refine XT.iincV X0.here hx rfl (1 : Int32) (Y 21 rfl) (by decide) rfl (l' := #[.val (.long (own_ngL N)), .second, iv 0, .val (.long (own_npL (ii + 1))), .second, iv (((own_n ii) + (1 : Int32)))]) rfl ?_
    show oS p e below s₁ (mkF m 47 #[.val (.long (own_ngL N)), .second, iv 0, .val (.long (own_npL (ii + 1))), .second, iv (((own_n ii) + (1 : Int32)))] []) _
    rw [own_nadd (by omega)]
    show oS p e below s₁ (mkF m 47 #[.val (.long (own_ngL N)), .second, iv 0, .val (.long (own_npL (ii + 1))), .second, iv ((own_n (ii + 1)))] []) _
    refine XS.goto X0.here hx rfl (pc0 := 47) (pc' := 20) rfl (Y 22 rfl) (by decide) (by decide) ?_
    exact kz)
   exact S10 tz kz
  have lo : ∀ k ii, 1 ≤ ii → ii + k = Dg → ∀ tz, oS p e below s₁ (mkF m 20 #[.val (.long (own_ngL N)), .second, iv 0, .val (.long (own_npL Dg)), .second, iv (own_n Dg)] []) tz → oS p e below s₁ (mkF m 20 #[.val (.long (own_ngL N)), .second, iv 0, .val (.long (own_npL ii)), .second, iv (own_n ii)] []) tz := by
   intro k
   induction k with
   | zero => intro ii h1 h2 tz kz; rw [show ii = Dg by omega]; exact kz
   | succ k ih => intro ii h1 h2 tz kz; exact tu ii h1 (by omega) tz (ih (ii + 1) (by omega) (by omega) tz kz)
  have S11 : ∀ tz, oS p e below s₁ (mkF m 24 #[.val (.long (own_ngL N)), .second, iv 0, .val (.long (own_npL Dg)), .second, iv (own_n Dg)] [(.int 19), (.int (own_n Dg))]) tz → P0 tz := fun tz kz => S9 tz (by
   refine lo (Dg - 1) 1 (Nat.le_refl _) (by omega) _ ?_
   show oS p e below s₁ (mkF m 20 #[.val (.long (own_ngL N)), .second, iv 0, .val (.long (own_npL Dg)), .second, iv (own_n Dg)] []) _
   refine XS.iload X0.here hx rfl (Y 10 rfl) rfl ?_
   refine XT.bipushV X0.here hx rfl (19 : Int32) (Y 11 rfl) (by decide) ?_
   show oS p e below s₁ (mkF m 24 #[.val (.long (own_ngL N)), .second, iv 0, .val (.long (own_npL Dg)), .second, iv (own_n Dg)] [(.int 19), (.int (own_n Dg))]) _
   exact kz)
  by_cases hc24_12 : (own_n Dg) < (19 : Int32)
  ·have hD18 : Dg < 19 := (own_cmpN (x := Dg) (y := 19) (by omega) (by decide)).mp hc24_12
   have S13 : ∀ tz, oS p e below s₁ (mkF m 37 #[.val (.long (own_ngL N)), .second, iv 0, .val (.long (own_npL Dg)), .second, iv (own_n Dg)] [(.int ((own_n Dg) + (0 : Int32)))]) tz → P0 tz := fun tz kz => S11 tz (by
    refine XS.icmpNo X0.here hx rfl (Y 12 rfl) rfl (XT.ii_ge_f hc24_12) ?_
    refine XT.lloadN X0.here hx rfl (Y 13 rfl) rfl ?_
    refine XT.lloadN X0.here hx rfl (Y 14 rfl) rfl ?_
    refine XT.lcmp X0.here hx rfl (Y 15 rfl) rfl ?_
    refine XS.ifNo X0.here hx rfl (Y 16 rfl) rfl (XT.ll_le_f (own_npLlt hD18 hNb ((own_dglt hpD).mp (Nat.le_of_eq hDg.symm)))) ?_
    refine XS.iload X0.here hx rfl (Y 23 rfl) rfl ?_
    refine XS.iloadN X0.here hx rfl (Y 24 rfl) rfl ?_
    refine XS.iadd X0.here hx rfl (Y 25 rfl) rfl ?_
    exact kz)
   obtain ⟨fs, hr, hrun, hended, hW, hsame⟩ := X0.leave (v := some (.int ((own_n Dg) + (0 : Int32)))) (fun h => by rw [Bd.returns] at h; cases h)
   refine ⟨_, _, pre0 _ (S13 _ ?_), hrun, hended, _, _, rfl, ?_, ⟨_, rfl⟩, hW, hsame.mono (by decide) (by decide)⟩
   · exact retI X0 hx Bd.returns (Y 26 rfl) hr
   · show QrmLS Z y h0 n0 _ s₁.heap _
     rw [e0]
     exact ⟨congrArg (fun z => some (Value.int z)) (by rw [hsz]; exact Int32.add_zero _), N0, rfl⟩
  ·have S14 : ∀ tz, oS p e below s₁ (mkF m 54 #[.val (.long (own_ngL N)), .second, iv 0, .val (.long (own_npL Dg)), .second, iv (own_n Dg)] [(.int 19)]) tz → P0 tz := fun tz kz => S11 tz (by
    refine XS.icmpYes X0.here hx rfl (pc0 := 24) (pc' := 50) rfl (Y 12 rfl) rfl (XT.ii_ge_t hc24_12) (by decide) (by decide) ?_
    refine XT.bipushV X0.here hx rfl (19 : Int32) (Y 27 rfl) (by decide) ?_
    refine XS.iloadN X0.here hx rfl (Y 28 rfl) rfl ?_
    refine XS.iadd X0.here hx rfl (Y 29 rfl) rfl ?_
    exact kz)
   obtain ⟨fs, hr, hrun, hended, hW, hsame⟩ := X0.leave (v := some (.int 19)) (fun h => by rw [Bd.returns] at h; cases h)
   refine ⟨_, _, pre0 _ (S14 _ ?_), hrun, hended, _, _, rfl, ?_, ⟨_, rfl⟩, hW, hsame.mono (by decide) (by decide)⟩
   · exact retI X0 hx Bd.returns (Y 30 rfl) hr
   · show QrmLS Z y h0 n0 _ s₁.heap _
     rw [e0]
     exact ⟨congrArg (fun z => some (Value.int z)) (by rw [hsz, show Dg = 19 from Nat.le_antisymm hDle (Nat.le_of_not_lt fun q => hc24_12 ((own_cmpN (x := Dg) (y := 19) (by omega) (by decide)).mpr q))]; rfl), N0, rfl⟩
def own_I1 (z : Slot) : Prop := z = .unset ∨ ∃ y : Int32, z = .val (.int y)
def own_J2 (z w : Slot) : Prop := (z = .unset ∧ w = .unset) ∨ ∃ y : Int64, z = .val (.long y) ∧ w = .second
theorem own_nb {k : Nat} (h : k < 128) : nar .byte (own_n k) = own_n k := by
  show (own_n k).toInt8.toInt32 = own_n k
  have q := c_i2b (own_n k)
  rw [own_nI (by omega)] at q
  rw [← Int32.toInt_inj, own_nI (by omega)]; omega
theorem own_fb {k : Nat} (h : k < 128) : fits .byte (.int (own_n k)) = true := by rw [← own_nb h]; exact fits_nar_byte _
theorem own_nd1 (r : Nat) : nar .byte (own_d1 r) = own_d1 r := own_nb (by omega)
theorem own_fd1 (r : Nat) : fits .byte (.int (own_d1 r)) = true := own_fb (by omega)
theorem own_nd2 {r : Nat} (h : r < 100) : nar .byte (own_d2 r) = own_d2 r := own_nb (by omega)
theorem own_fd2 {r : Nat} (h : r < 100) : fits .byte (.int (own_d2 r)) = true := own_fb (by omega)
theorem own_ngge {M : Nat} (h : M ≤ 2147483648) (k : 100 ≤ M) : ¬ (-100 : Int32) < own_ng M := by rw [own_ngcmp h, show (-100 : Int32).toInt = -100 from rfl]; omega
theorem own_nglt {M : Nat} (k : M < 100) : (-100 : Int32) < own_ng M := by rw [own_ngcmp (by omega), show (-100 : Int32).toInt = -100 from rfl]; omega
theorem own_ngLge {M : Nat} (h : M ≤ 9223372036854775808) (k : 2147483648 ≤ M) : ¬ (-2147483648 : Int64) < own_ngL M := by rw [own_ngLcmp h, show (-2147483648 : Int64).toInt = -2147483648 from rfl]; omega
theorem own_ngLlt {M : Nat} (k : M < 2147483648) : (-2147483648 : Int64) < own_ngL M := by rw [own_ngLcmp (by omega), show (-2147483648 : Int64).toInt = -2147483648 from rfl]; omega
theorem own_ng9 {M : Nat} (h : M < 100) : own_ng M < (-9 : Int32) ↔ 10 ≤ M := by rw [own_ngcmpr (by omega), show (-9 : Int32).toInt = -9 from rfl]; omega
theorem own_gcP {gf g : Nat → Int32} {ix N : Nat} {z : Int} (hz : ¬ z < 0) (hN : N = z.natAbs) (hd : own_dg N ≤ ix) (q : ∀ i, gf i = own_wr g ix N i) : (∀ i, i < ix - own_sz z → gf i = g i) ∧ (∀ i, i < own_sz z → gf (ix - own_sz z + i) = own_num z i) := by
  have hs : own_sz z = own_dg N := by unfold own_sz; rw [if_neg hz, hN]; rfl
  rw [hs]
  refine ⟨fun i hi => ?_, fun i hi => ?_⟩
  · rw [q]; unfold own_wr; rw [if_neg (by omega)]
  · rw [q]; unfold own_wr own_num
    rw [if_pos (by omega), if_neg (fun r => hz r.1), hs, ← hN, show ix - 1 - (ix - own_dg N + i) = own_dg N - 1 - i by omega]
theorem own_gcN {gf ga g : Nat → Int32} {ix N k : Nat} {z : Int} (hz : z < 0) (hN : N = z.natAbs) (hd : own_dg N + 1 ≤ ix) (q : ∀ i, ga i = own_wr g ix N i) (hk : k = ix - own_dg N - 1) (r : gf = own_up ga k 45) : (∀ i, i < ix - own_sz z → gf i = g i) ∧ (∀ i, i < own_sz z → gf (ix - own_sz z + i) = own_num z i) := by
  have hs : own_sz z = own_dg N + 1 := by unfold own_sz; rw [if_pos hz, hN]
  have hp := own_dgpos N
  rw [hs, r]
  refine ⟨fun i hi => ?_, fun i hi => ?_⟩
  · unfold own_up; rw [if_neg (by omega), q]; unfold own_wr; rw [if_neg (by omega)]
  · by_cases c0 : i = 0
    · subst c0; unfold own_up own_num; rw [if_pos (by omega), if_pos ⟨hz, rfl⟩]
    · unfold own_up own_num
      rw [if_neg (by omega), if_neg (fun r => c0 r.2), q, hs, ← hN]
      unfold own_wr
      rw [if_pos (by omega), show ix - 1 - (ix - (own_dg N + 1) + i) = own_dg N + 1 - 1 - i by omega]
theorem D_own_tI : oL jdk_33_method_12_code [(22, .iload_n 0, 1), (23, .bipush (-100), 2), (25, .if_icmp .gt 47, 3), (28, .iload_n 0, 1), (29, .bipush 100, 2), (31, .idiv, 1), (32, .istore_n 3, 1), (33, .iload_n 3, 1), (34, .bipush 100, 2), (36, .imul, 1), (37, .iload_n 0, 1), (38, .isub, 1), (39, .istore 4, 2), (41, .iload_n 3, 1), (42, .istore_n 0, 1), (43, .aload_n 2, 1), (44, .iinc 5 (-1), 3), (47, .iload 5, 2), (49, .getstatic 83, 3), (52, .iload 4, 2), (54, .baload, 1), (55, .bastore, 1), (56, .aload_n 2, 1), (57, .iinc 5 (-1), 3), (60, .iload 5, 2), (62, .getstatic 87, 3), (65, .iload 4, 2), (67, .baload, 1), (68, .bastore, 1), (69, .goto (-47), 3)] := by decide +kernel
theorem own_tI {p : Program} {l : Launch} {e : Env} {R : Room} {cells slots : Nat} {s : State} {m : MethodId} {args : Array Value} {below : List Frame} {meth : Method} {c : Code} {T0 : State} {locs : List Loc} {Z : State} {av0 : Array Value} {h0 : Heap} {n0 : Nat} (b0 : Addr) (cap : Nat) (g : Nat → Int32) (ix : Nat) (cp : Nat) (M : Nat) (yn : Int32) (dO : Addr) (dX : Addr) (x3 : Slot) (x4 : Slot) (X0 : Stand p l e R s m args below meth c T0 locs cells slots) (hx : p.tables.exec = Jvm.exec) (hZ : Z.Warmed39 s.vm) (hw : ∀ d ∈ tables_1, d.before av0 Z = true) (hby : c.code = jdk_33_method_12_code) (hml : c.maxLocals = 7) (hown : s.vm.findClass mN27.cls = some m.cls) (e0 : T0.heap = h0) (N0 : Fr n0 locs) (Z0 : n0 ≤ h0.size) (hB : own_Ab Z h0 b0 cap g) (hSO : Sta Z h0 "java/lang/Integer" "DigitOnes" "[B" (.ref dO)) (hSX : Sta Z h0 "java/lang/Integer" "DigitTens" "[B" (.ref dX)) (hAO : own_Ab Z h0 dO 100 own_d1) (hAX : own_Ab Z h0 dX 100 own_d2) (hnO : dO ≠ b0) (hnX : dX ≠ b0) (hgb : n0 ≤ b0) (hcp : 2 ≤ cp ∧ cp ≤ cap ∧ cap < 1000) (hM : M ≤ 2147483648 ∧ 100 ≤ M) (hx3 : own_I1 x3) (hx4 : own_I1 x4) :
    ∃ (T' : State) (h' : Heap) (locs' : List Loc), Stand p l e R s m args below meth c T' locs' cells slots ∧ T'.heap = h' ∧ Fr n0 locs' ∧ Keep h0 h' [b0] ∧ own_Ab Z h' b0 cap (own_up (own_up g (cp - 1) (own_d1 (M % 100))) (cp - 1 - 1) (own_d2 (M % 100))) ∧ ∀ tz, oS p e below T' (mkF m 22 #[iv ((own_ng (M / 100))), iv (own_n ix), rv b0, iv ((own_ng (M / 100))), iv ((own_n (M % 100))), iv ((own_n (cp - 1 - 1))), iv yn] []) tz → oS p e below T0 (mkF m 22 #[iv (own_ng M), iv (own_n ix), rv b0, x3, x4, iv (own_n cp), iv yn] []) tz := by
 have Y := @oY _ _ _ hby D_own_tI
 obtain ⟨T1, X1, e1, st1⟩ := getS2 X0 hx hZ hown (host := "") (Or.inl (oq hw 161 rfl)) Via.refl e0 hSO (g := (mkF m 49 #[iv ((own_ng (M / 100))), iv (own_n ix), rv b0, iv ((own_ng (M / 100))), iv ((own_n (M % 100))), iv ((own_n (cp - 1))), iv yn] [(.int (own_n (cp - 1))), (.ref b0)])) rfl (Y 18 rfl)
 obtain ⟨kc2, cl2, Ar2, qk2, Sz2, Ng2, Hs2, Gs2⟩ := id hAO
 have hin2 : ¬ ((own_n (M % 100)) < 0 ∨ cl2.slots.size ≤ ((own_n (M % 100))).toNatClampNeg) := own_inb (n := 100) (k := (M % 100)) Sz2 (by decide) (by omega)
 have hat2 : cl2.slots[((own_n (M % 100))).toNatClampNeg]? = some (.int (own_d1 (M % 100))) := own_at (n := 100) (k := (M % 100)) (g := own_d1) Hs2 Sz2 (by decide) (by omega) rfl
 obtain ⟨kc3, cl3, Ar3, qk3, Sz3, Ng3, Hs3, Gs3⟩ := id hB
 have hin3 : ¬ ((own_n (cp - 1)) < 0 ∨ cl3.slots.size ≤ ((own_n (cp - 1))).toNatClampNeg) := own_inb (n := cap) (k := (cp - 1)) Sz3 (by omega) (by omega)
 obtain ⟨T4, h4, X4, e4, W4, st4⟩ := stB X1 hx hZ e1 Ar3 (j := (own_n (cp - 1))) hin3 (g := (mkF m 55 #[iv ((own_ng (M / 100))), iv (own_n ix), rv b0, iv ((own_ng (M / 100))), iv ((own_n (M % 100))), iv ((own_n (cp - 1))), iv yn] [(.int (own_d1 (M % 100))), (.int (own_n (cp - 1))), (.ref b0)])) rfl rfl (Y 21 rfl)
 have N4 := Fr.snoc X4 N0 hgb
 have Z4 : n0 ≤ h4.size := Nat.le_trans Z0 (Nat.le_of_eq W4.size.symm)
 have K4 : Keep h0 h4 [b0] := (Keep.refl h0 [b0]).wr W4 (Or.inl (List.mem_of_getElem? (i := 0) rfl))
 rw [own_nd1] at W4
 have V4 : own_Ab Z h4 b0 cap (own_up g (cp - 1) (own_d1 (M % 100))) := own_arsetB (g := g) (k := (cp - 1)) Ar3 qk3 Sz3 Ng3 Hs3 Gs3 W4 (own_fd1 _) (by omega) (by omega)
 have f5 := (hSX.wr W4)
 obtain ⟨T6, X6, e6, st6⟩ := getS2 X4 hx hZ hown (host := "") (Or.inl (oq hw 284 rfl)) Via.refl e4 f5 (g := (mkF m 62 #[iv ((own_ng (M / 100))), iv (own_n ix), rv b0, iv ((own_ng (M / 100))), iv ((own_n (M % 100))), iv ((own_n (cp - 1 - 1))), iv yn] [(.int (own_n (cp - 1 - 1))), (.ref b0)])) rfl (Y 25 rfl)
 have f7 := (hAX.other W4 hnX)
 obtain ⟨kc8, cl8, Ar8, qk8, Sz8, Ng8, Hs8, Gs8⟩ := id f7
 have hin8 : ¬ ((own_n (M % 100)) < 0 ∨ cl8.slots.size ≤ ((own_n (M % 100))).toNatClampNeg) := own_inb (n := 100) (k := (M % 100)) Sz8 (by decide) (by omega)
 have hat8 : cl8.slots[((own_n (M % 100))).toNatClampNeg]? = some (.int (own_d2 (M % 100))) := own_at (n := 100) (k := (M % 100)) (g := own_d2) Hs8 Sz8 (by decide) (by omega) rfl
 obtain ⟨kc9, cl9, Ar9, qk9, Sz9, Ng9, Hs9, Gs9⟩ := id V4
 have hin9 : ¬ ((own_n (cp - 1 - 1)) < 0 ∨ cl9.slots.size ≤ ((own_n (cp - 1 - 1))).toNatClampNeg) := own_inb (n := cap) (k := (cp - 1 - 1)) Sz9 (by omega) (by omega)
 obtain ⟨T10, h10, X10, e10, W10, st10⟩ := stB X6 hx hZ e6 Ar9 (j := (own_n (cp - 1 - 1))) hin9 (g := (mkF m 68 #[iv ((own_ng (M / 100))), iv (own_n ix), rv b0, iv ((own_ng (M / 100))), iv ((own_n (M % 100))), iv ((own_n (cp - 1 - 1))), iv yn] [(.int (own_d2 (M % 100))), (.int (own_n (cp - 1 - 1))), (.ref b0)])) rfl rfl (Y 28 rfl)
 have N10 := Fr.snoc X10 N4 hgb
 have Z10 : n0 ≤ h10.size := Nat.le_trans Z4 (Nat.le_of_eq W10.size.symm)
 have K10 : Keep h0 h10 [b0] := K4.wr W10 (Or.inl (List.mem_of_getElem? (i := 0) rfl))
 rw [own_nd2 (by omega)] at W10
 have V10 : own_Ab Z h10 b0 cap (own_up (own_up g (cp - 1) (own_d1 (M % 100))) (cp - 1 - 1) (own_d2 (M % 100))) := own_arsetB (g := (own_up g (cp - 1) (own_d1 (M % 100)))) (k := (cp - 1 - 1)) Ar9 qk9 Sz9 Ng9 Hs9 Gs9 W10 (own_fd2 (by omega)) (by omega) (by omega)
 have S11 : ∀ tz, oS p e below T10 (mkF m 22 #[iv ((own_ng (M / 100))), iv (own_n ix), rv b0, iv ((own_ng (M / 100))), iv ((own_n (M % 100))), iv ((own_n (cp - 1 - 1))), iv yn] []) tz → oS p e below T0 (mkF m 22 #[iv (own_ng M), iv (own_n ix), rv b0, x3, x4, iv (own_n cp), iv yn] []) tz := fun tz kz => id (by
  refine XS.iloadN X0.here hx rfl (Y 0 rfl) rfl ?_
  refine XT.bipushV X0.here hx rfl (-100 : Int32) (Y 1 rfl) (by decide) ?_
  refine XS.icmpNo X0.here hx rfl (Y 2 rfl) rfl (XT.ii_gt_f (own_ngge hM.1 hM.2)) ?_
  refine XS.iloadN X0.here hx rfl (Y 3 rfl) rfl ?_
  refine XT.bipushV X0.here hx rfl (100 : Int32) (Y 4 rfl) (by decide) ?_
  refine XS.idiv X0.here hx rfl (Y 5 rfl) rfl (by decide) ?_
  show oS p e below T0 (mkF m 32 #[iv (own_ng M), iv (own_n ix), rv b0, x3, x4, iv (own_n cp), iv yn] [(.int ((own_ng M) / (100 : Int32)))]) _
  rw [own_ngdiv hM.1]
  show oS p e below T0 (mkF m 32 #[iv (own_ng M), iv (own_n ix), rv b0, x3, x4, iv (own_n cp), iv yn] [(.int (own_ng (M / 100)))]) _
  refine XS.istoreN X0.here hx rfl (Y 6 rfl) rfl (l' := #[iv (own_ng M), iv (own_n ix), rv b0, iv ((own_ng (M / 100))), x4, iv (own_n cp), iv yn]) (by rcases hx3 with z | ⟨y, z⟩ <;> subst z <;> rfl) ?_
  refine XS.iloadN X0.here hx rfl (Y 7 rfl) rfl ?_
  refine XT.bipushV X0.here hx rfl (100 : Int32) (Y 8 rfl) (by decide) ?_
  show oS p e below T0 (mkF m 36 #[iv (own_ng M), iv (own_n ix), rv b0, iv ((own_ng (M / 100))), x4, iv (own_n cp), iv yn] [(.int 100), (.int (own_ng (M / 100)))]) _
  refine XS.imul X0.here hx rfl (Y 9 rfl) rfl ?_
  refine XS.iloadN X0.here hx rfl (Y 10 rfl) rfl ?_
  refine XS.isub X0.here hx rfl (Y 11 rfl) rfl ?_
  show oS p e below T0 (mkF m 39 #[iv (own_ng M), iv (own_n ix), rv b0, iv ((own_ng (M / 100))), x4, iv (own_n cp), iv yn] [(.int (((own_ng (M / 100)) * (100 : Int32)) - (own_ng M)))]) _
  rw [own_ngrem hM.1]
  show oS p e below T0 (mkF m 39 #[iv (own_ng M), iv (own_n ix), rv b0, iv ((own_ng (M / 100))), x4, iv (own_n cp), iv yn] [(.int (own_n (M % 100)))]) _
  refine XS.istore X0.here hx rfl (Y 12 rfl) rfl (l' := #[iv (own_ng M), iv (own_n ix), rv b0, iv ((own_ng (M / 100))), iv ((own_n (M % 100))), iv (own_n cp), iv yn]) (by rcases hx4 with z | ⟨y, z⟩ <;> subst z <;> rfl) ?_
  refine XS.iloadN X0.here hx rfl (Y 13 rfl) rfl ?_
  refine XS.istoreN X0.here hx rfl (Y 14 rfl) rfl (l' := #[iv ((own_ng (M / 100))), iv (own_n ix), rv b0, iv ((own_ng (M / 100))), iv ((own_n (M % 100))), iv (own_n cp), iv yn]) rfl ?_
  refine XS.aloadN X0.here hx rfl (Y 15 rfl) rfl rfl ?_
  refine XT.iincV X0.here hx rfl (-1 : Int32) (Y 16 rfl) (by decide) rfl (l' := #[iv ((own_ng (M / 100))), iv (own_n ix), rv b0, iv ((own_ng (M / 100))), iv ((own_n (M % 100))), iv (((own_n cp) + (-1 : Int32))), iv yn]) rfl ?_
  show oS p e below T0 (mkF m 47 #[iv ((own_ng (M / 100))), iv (own_n ix), rv b0, iv ((own_ng (M / 100))), iv ((own_n (M % 100))), iv (((own_n cp) + (-1 : Int32))), iv yn] [(.ref b0)]) _
  rw [own_ndec (k := cp) (by omega) (by omega)]
  show oS p e below T0 (mkF m 47 #[iv ((own_ng (M / 100))), iv (own_n ix), rv b0, iv ((own_ng (M / 100))), iv ((own_n (M % 100))), iv ((own_n (cp - 1))), iv yn] [(.ref b0)]) _
  refine XS.iload X0.here hx rfl (Y 17 rfl) rfl ?_
  refine st1 _ ?_
  refine XS.iload X1.here hx rfl (Y 19 rfl) rfl ?_
  refine X1.baloadBytes hx (j := (own_n (M % 100))) (v := (.int (own_d1 (M % 100)))) (by rw [e1]; exact Ar2.1) (State.isArrayOf_alike hZ.alike Ar2.2.1) Ar2.2.2 hin2 hat2 (g := (mkF m 54 #[iv ((own_ng (M / 100))), iv (own_n ix), rv b0, iv ((own_ng (M / 100))), iv ((own_n (M % 100))), iv ((own_n (cp - 1))), iv yn] [(.int (own_n (M % 100))), (.ref dO), (.int (own_n (cp - 1))), (.ref b0)])) rfl rfl (Y 20 rfl) _ ?_
  refine st4 _ ?_
  refine XS.aloadN X4.here hx rfl (Y 22 rfl) rfl rfl ?_
  refine XT.iincV X4.here hx rfl (-1 : Int32) (Y 23 rfl) (by decide) rfl (l' := #[iv ((own_ng (M / 100))), iv (own_n ix), rv b0, iv ((own_ng (M / 100))), iv ((own_n (M % 100))), iv (((own_n (cp - 1)) + (-1 : Int32))), iv yn]) rfl ?_
  show oS p e below T4 (mkF m 60 #[iv ((own_ng (M / 100))), iv (own_n ix), rv b0, iv ((own_ng (M / 100))), iv ((own_n (M % 100))), iv (((own_n (cp - 1)) + (-1 : Int32))), iv yn] [(.ref b0)]) _
  rw [own_ndec (k := cp - 1) (by omega) (by omega)]
  show oS p e below T4 (mkF m 60 #[iv ((own_ng (M / 100))), iv (own_n ix), rv b0, iv ((own_ng (M / 100))), iv ((own_n (M % 100))), iv ((own_n (cp - 1 - 1))), iv yn] [(.ref b0)]) _
  refine XS.iload X4.here hx rfl (Y 24 rfl) rfl ?_
  refine st6 _ ?_
  show oS p e below T6 (mkF m 65 #[iv ((own_ng (M / 100))), iv (own_n ix), rv b0, iv ((own_ng (M / 100))), iv ((own_n (M % 100))), iv ((own_n (cp - 1 - 1))), iv yn] [(.ref dX), (.int (own_n (cp - 1 - 1))), (.ref b0)]) _
  refine XS.iload X6.here hx rfl (Y 26 rfl) rfl ?_
  refine X6.baloadBytes hx (j := (own_n (M % 100))) (v := (.int (own_d2 (M % 100)))) (by rw [e6]; exact Ar8.1) (State.isArrayOf_alike hZ.alike Ar8.2.1) Ar8.2.2 hin8 hat8 (g := (mkF m 67 #[iv ((own_ng (M / 100))), iv (own_n ix), rv b0, iv ((own_ng (M / 100))), iv ((own_n (M % 100))), iv ((own_n (cp - 1 - 1))), iv yn] [(.int (own_n (M % 100))), (.ref dX), (.int (own_n (cp - 1 - 1))), (.ref b0)])) rfl rfl (Y 27 rfl) _ ?_
  refine st10 _ ?_
  refine XS.goto X10.here hx rfl (pc0 := 69) (pc' := 22) rfl (Y 29 rfl) (by decide) (by decide) ?_
  exact kz)
 exact ⟨T10, _, _, X10, e10, N10, K10, V10, fun tz kz => S11 tz kz⟩
theorem D_own_tL : oL jdk_35_method_14_code [(24, .lload_n 0, 1), (25, .ldc2_w 129, 3), (28, .lcmp, 1), (29, .ifCond .gt 53, 3), (32, .lload_n 0, 1), (33, .ldc2_w 131, 3), (36, .ldiv, 1), (37, .lstore 4, 2), (39, .lload 4, 2), (41, .ldc2_w 131, 3), (44, .lmul, 1), (45, .lload_n 0, 1), (46, .lsub, 1), (47, .l2i, 1), (48, .istore 6, 2), (50, .lload 4, 2), (52, .lstore_n 0, 1), (53, .aload_n 3, 1), (54, .iinc 7 (-1), 3), (57, .iload 7, 2), (59, .getstatic 133, 3), (62, .iload 6, 2), (64, .baload, 1), (65, .bastore, 1), (66, .aload_n 3, 1), (67, .iinc 7 (-1), 3), (70, .iload 7, 2), (72, .getstatic 137, 3), (75, .iload 6, 2), (77, .baload, 1), (78, .bastore, 1), (79, .goto (-55), 3)] := by decide +kernel
theorem own_tL {p : Program} {l : Launch} {e : Env} {R : Room} {cells slots : Nat} {s : State} {m : MethodId} {args : Array Value} {below : List Frame} {meth : Method} {c : Code} {T0 : State} {locs : List Loc} {Z : State} {av0 : Array Value} {h0 : Heap} {n0 : Nat} (b0 : Addr) (cap : Nat) (g : Nat → Int32) (ix : Nat) (cp : Nat) (M : Nat) (yn : Int32) (dO : Addr) (dX : Addr) (x4 : Slot) (x5 : Slot) (x6 : Slot) (X0 : Stand p l e R s m args below meth c T0 locs cells slots) (hx : p.tables.exec = Jvm.exec) (hZ : Z.Warmed39 s.vm) (hw : ∀ d ∈ tables_1, d.before av0 Z = true) (hby : c.code = jdk_35_method_14_code) (hml : c.maxLocals = 11) (hown : s.vm.findClass mN28.cls = some m.cls) (e0 : T0.heap = h0) (N0 : Fr n0 locs) (Z0 : n0 ≤ h0.size) (hB : own_Ab Z h0 b0 cap g) (hSO : Sta Z h0 "java/lang/Integer" "DigitOnes" "[B" (.ref dO)) (hSX : Sta Z h0 "java/lang/Integer" "DigitTens" "[B" (.ref dX)) (hAO : own_Ab Z h0 dO 100 own_d1) (hAX : own_Ab Z h0 dX 100 own_d2) (hnO : dO ≠ b0) (hnX : dX ≠ b0) (hgb : n0 ≤ b0) (hcp : 2 ≤ cp ∧ cp ≤ cap ∧ cap < 1000) (hM : M ≤ 9223372036854775808 ∧ 2147483648 ≤ M) (hx45 : own_J2 x4 x5) (hx6 : own_I1 x6) :
    ∃ (T' : State) (h' : Heap) (locs' : List Loc), Stand p l e R s m args below meth c T' locs' cells slots ∧ T'.heap = h' ∧ Fr n0 locs' ∧ Keep h0 h' [b0] ∧ own_Ab Z h' b0 cap (own_up (own_up g (cp - 1) (own_d1 (M % 100))) (cp - 1 - 1) (own_d2 (M % 100))) ∧ ∀ tz, oS p e below T' (mkF m 24 #[.val (.long (own_ngL (M / 100))), .second, iv (own_n ix), rv b0, .val (.long (own_ngL (M / 100))), .second, iv ((own_n (M % 100))), iv ((own_n (cp - 1 - 1))), iv yn, .unset, .unset] []) tz → oS p e below T0 (mkF m 24 #[.val (.long (own_ngL M)), .second, iv (own_n ix), rv b0, x4, x5, x6, iv (own_n cp), iv yn, .unset, .unset] []) tz := by
 have Y := @oY _ _ _ hby D_own_tL
 obtain ⟨T1, X1, e1, st1⟩ := getS2 X0 hx hZ hown (host := "") (Or.inl (oq hw 181 rfl)) Via.refl e0 hSO (g := (mkF m 59 #[.val (.long (own_ngL (M / 100))), .second, iv (own_n ix), rv b0, .val (.long (own_ngL (M / 100))), .second, iv ((own_n (M % 100))), iv ((own_n (cp - 1))), iv yn, .unset, .unset] [(.int (own_n (cp - 1))), (.ref b0)])) rfl (Y 20 rfl)
 obtain ⟨kc2, cl2, Ar2, qk2, Sz2, Ng2, Hs2, Gs2⟩ := id hAO
 have hin2 : ¬ ((own_n (M % 100)) < 0 ∨ cl2.slots.size ≤ ((own_n (M % 100))).toNatClampNeg) := own_inb (n := 100) (k := (M % 100)) Sz2 (by decide) (by omega)
 have hat2 : cl2.slots[((own_n (M % 100))).toNatClampNeg]? = some (.int (own_d1 (M % 100))) := own_at (n := 100) (k := (M % 100)) (g := own_d1) Hs2 Sz2 (by decide) (by omega) rfl
 obtain ⟨kc3, cl3, Ar3, qk3, Sz3, Ng3, Hs3, Gs3⟩ := id hB
 have hin3 : ¬ ((own_n (cp - 1)) < 0 ∨ cl3.slots.size ≤ ((own_n (cp - 1))).toNatClampNeg) := own_inb (n := cap) (k := (cp - 1)) Sz3 (by omega) (by omega)
 obtain ⟨T4, h4, X4, e4, W4, st4⟩ := stB X1 hx hZ e1 Ar3 (j := (own_n (cp - 1))) hin3 (g := (mkF m 65 #[.val (.long (own_ngL (M / 100))), .second, iv (own_n ix), rv b0, .val (.long (own_ngL (M / 100))), .second, iv ((own_n (M % 100))), iv ((own_n (cp - 1))), iv yn, .unset, .unset] [(.int (own_d1 (M % 100))), (.int (own_n (cp - 1))), (.ref b0)])) rfl rfl (Y 23 rfl)
 have N4 := Fr.snoc X4 N0 hgb
 have Z4 : n0 ≤ h4.size := Nat.le_trans Z0 (Nat.le_of_eq W4.size.symm)
 have K4 : Keep h0 h4 [b0] := (Keep.refl h0 [b0]).wr W4 (Or.inl (List.mem_of_getElem? (i := 0) rfl))
 rw [own_nd1] at W4
 have V4 : own_Ab Z h4 b0 cap (own_up g (cp - 1) (own_d1 (M % 100))) := own_arsetB (g := g) (k := (cp - 1)) Ar3 qk3 Sz3 Ng3 Hs3 Gs3 W4 (own_fd1 _) (by omega) (by omega)
 have f5 := (hSX.wr W4)
 obtain ⟨T6, X6, e6, st6⟩ := getS2 X4 hx hZ hown (host := "") (Or.inl (oq hw 283 rfl)) Via.refl e4 f5 (g := (mkF m 72 #[.val (.long (own_ngL (M / 100))), .second, iv (own_n ix), rv b0, .val (.long (own_ngL (M / 100))), .second, iv ((own_n (M % 100))), iv ((own_n (cp - 1 - 1))), iv yn, .unset, .unset] [(.int (own_n (cp - 1 - 1))), (.ref b0)])) rfl (Y 27 rfl)
 have f7 := (hAX.other W4 hnX)
 obtain ⟨kc8, cl8, Ar8, qk8, Sz8, Ng8, Hs8, Gs8⟩ := id f7
 have hin8 : ¬ ((own_n (M % 100)) < 0 ∨ cl8.slots.size ≤ ((own_n (M % 100))).toNatClampNeg) := own_inb (n := 100) (k := (M % 100)) Sz8 (by decide) (by omega)
 have hat8 : cl8.slots[((own_n (M % 100))).toNatClampNeg]? = some (.int (own_d2 (M % 100))) := own_at (n := 100) (k := (M % 100)) (g := own_d2) Hs8 Sz8 (by decide) (by omega) rfl
 obtain ⟨kc9, cl9, Ar9, qk9, Sz9, Ng9, Hs9, Gs9⟩ := id V4
 have hin9 : ¬ ((own_n (cp - 1 - 1)) < 0 ∨ cl9.slots.size ≤ ((own_n (cp - 1 - 1))).toNatClampNeg) := own_inb (n := cap) (k := (cp - 1 - 1)) Sz9 (by omega) (by omega)
 obtain ⟨T10, h10, X10, e10, W10, st10⟩ := stB X6 hx hZ e6 Ar9 (j := (own_n (cp - 1 - 1))) hin9 (g := (mkF m 78 #[.val (.long (own_ngL (M / 100))), .second, iv (own_n ix), rv b0, .val (.long (own_ngL (M / 100))), .second, iv ((own_n (M % 100))), iv ((own_n (cp - 1 - 1))), iv yn, .unset, .unset] [(.int (own_d2 (M % 100))), (.int (own_n (cp - 1 - 1))), (.ref b0)])) rfl rfl (Y 30 rfl)
 have N10 := Fr.snoc X10 N4 hgb
 have Z10 : n0 ≤ h10.size := Nat.le_trans Z4 (Nat.le_of_eq W10.size.symm)
 have K10 : Keep h0 h10 [b0] := K4.wr W10 (Or.inl (List.mem_of_getElem? (i := 0) rfl))
 rw [own_nd2 (by omega)] at W10
 have V10 : own_Ab Z h10 b0 cap (own_up (own_up g (cp - 1) (own_d1 (M % 100))) (cp - 1 - 1) (own_d2 (M % 100))) := own_arsetB (g := (own_up g (cp - 1) (own_d1 (M % 100)))) (k := (cp - 1 - 1)) Ar9 qk9 Sz9 Ng9 Hs9 Gs9 W10 (own_fd2 (by omega)) (by omega) (by omega)
 have S11 : ∀ tz, oS p e below T10 (mkF m 24 #[.val (.long (own_ngL (M / 100))), .second, iv (own_n ix), rv b0, .val (.long (own_ngL (M / 100))), .second, iv ((own_n (M % 100))), iv ((own_n (cp - 1 - 1))), iv yn, .unset, .unset] []) tz → oS p e below T0 (mkF m 24 #[.val (.long (own_ngL M)), .second, iv (own_n ix), rv b0, x4, x5, x6, iv (own_n cp), iv yn, .unset, .unset] []) tz := fun tz kz => id (by
  refine XT.lloadN X0.here hx rfl (Y 0 rfl) rfl ?_
  refine X0.ldc2J hx hown (mvT hZ (oq hw 180 rfl)) rfl (Y 1 rfl) ?_
  refine XT.lcmp X0.here hx rfl (Y 2 rfl) rfl ?_
  refine XS.ifNo X0.here hx rfl (Y 3 rfl) rfl (XT.ll_gt_f (own_ngLge hM.1 hM.2)) ?_
  refine XT.lloadN X0.here hx rfl (Y 4 rfl) rfl ?_
  refine X0.ldc2J hx hown (mvT hZ (oq hw 303 rfl)) rfl (Y 5 rfl) ?_
  refine XT.ldiv X0.here hx rfl (Y 6 rfl) rfl (by decide) ?_
  show oS p e below T0 (mkF m 37 #[.val (.long (own_ngL M)), .second, iv (own_n ix), rv b0, x4, x5, x6, iv (own_n cp), iv yn, .unset, .unset] [(.long ((own_ngL M) / (100 : Int64)))]) _
  rw [own_ngLdiv hM.1]
  show oS p e below T0 (mkF m 37 #[.val (.long (own_ngL M)), .second, iv (own_n ix), rv b0, x4, x5, x6, iv (own_n cp), iv yn, .unset, .unset] [(.long (own_ngL (M / 100)))]) _
  refine XT.lstore X0.here hx rfl (Y 7 rfl) rfl (l' := #[.val (.long (own_ngL M)), .second, iv (own_n ix), rv b0, .val (.long (own_ngL (M / 100))), .second, x6, iv (own_n cp), iv yn, .unset, .unset]) (by rcases hx45 with z | ⟨y, z⟩ <;> obtain ⟨z1, z2⟩ := z <;> subst z1 <;> subst z2 <;> rfl) ?_
  refine XT.lload X0.here hx rfl (Y 8 rfl) rfl ?_
  show oS p e below T0 (mkF m 41 #[.val (.long (own_ngL M)), .second, iv (own_n ix), rv b0, .val (.long (own_ngL (M / 100))), .second, x6, iv (own_n cp), iv yn, .unset, .unset] [(.long (own_ngL (M / 100)))]) _
  refine X0.ldc2J hx hown (mvT hZ (oq hw 303 rfl)) rfl (Y 9 rfl) ?_
  refine XT.lmul X0.here hx rfl (Y 10 rfl) rfl ?_
  refine XT.lloadN X0.here hx rfl (Y 11 rfl) rfl ?_
  refine XT.lsub X0.here hx rfl (Y 12 rfl) rfl ?_
  refine XT.l2i X0.here hx rfl (Y 13 rfl) rfl ?_
  show oS p e below T0 (mkF m 48 #[.val (.long (own_ngL M)), .second, iv (own_n ix), rv b0, .val (.long (own_ngL (M / 100))), .second, x6, iv (own_n cp), iv yn, .unset, .unset] [(.int ((((own_ngL (M / 100)) * (100 : Int64)) - (own_ngL M))).toInt32)]) _
  rw [own_ngLrem hM.1]
  show oS p e below T0 (mkF m 48 #[.val (.long (own_ngL M)), .second, iv (own_n ix), rv b0, .val (.long (own_ngL (M / 100))), .second, x6, iv (own_n cp), iv yn, .unset, .unset] [(.int (own_n (M % 100)))]) _
  refine XS.istore X0.here hx rfl (Y 14 rfl) rfl (l' := #[.val (.long (own_ngL M)), .second, iv (own_n ix), rv b0, .val (.long (own_ngL (M / 100))), .second, iv ((own_n (M % 100))), iv (own_n cp), iv yn, .unset, .unset]) (by rcases hx6 with z | ⟨y, z⟩ <;> subst z <;> rfl) ?_
  refine XT.lload X0.here hx rfl (Y 15 rfl) rfl ?_
  refine XT.lstoreN X0.here hx rfl (Y 16 rfl) rfl (l' := #[.val (.long (own_ngL (M / 100))), .second, iv (own_n ix), rv b0, .val (.long (own_ngL (M / 100))), .second, iv ((own_n (M % 100))), iv (own_n cp), iv yn, .unset, .unset]) rfl ?_
  refine XS.aloadN X0.here hx rfl (Y 17 rfl) rfl rfl ?_
  show oS p e below T0 (mkF m 54 #[.val (.long (own_ngL (M / 100))), .second, iv (own_n ix), rv b0, .val (.long (own_ngL (M / 100))), .second, iv ((own_n (M % 100))), iv (own_n cp), iv yn, .unset, .unset] [(.ref b0)]) _
  refine XT.iincV X0.here hx rfl (-1 : Int32) (Y 18 rfl) (by decide) rfl (l' := #[.val (.long (own_ngL (M / 100))), .second, iv (own_n ix), rv b0, .val (.long (own_ngL (M / 100))), .second, iv ((own_n (M % 100))), iv (((own_n cp) + (-1 : Int32))), iv yn, .unset, .unset]) rfl ?_
  show oS p e below T0 (mkF m 57 #[.val (.long (own_ngL (M / 100))), .second, iv (own_n ix), rv b0, .val (.long (own_ngL (M / 100))), .second, iv ((own_n (M % 100))), iv (((own_n cp) + (-1 : Int32))), iv yn, .unset, .unset] [(.ref b0)]) _
  rw [own_ndec (k := cp) (by omega) (by omega)]
  show oS p e below T0 (mkF m 57 #[.val (.long (own_ngL (M / 100))), .second, iv (own_n ix), rv b0, .val (.long (own_ngL (M / 100))), .second, iv ((own_n (M % 100))), iv ((own_n (cp - 1))), iv yn, .unset, .unset] [(.ref b0)]) _
  refine XS.iload X0.here hx rfl (Y 19 rfl) rfl ?_
  refine st1 _ ?_
  refine XS.iload X1.here hx rfl (Y 21 rfl) rfl ?_
  refine X1.baloadBytes hx (j := (own_n (M % 100))) (v := (.int (own_d1 (M % 100)))) (by rw [e1]; exact Ar2.1) (State.isArrayOf_alike hZ.alike Ar2.2.1) Ar2.2.2 hin2 hat2 (g := (mkF m 64 #[.val (.long (own_ngL (M / 100))), .second, iv (own_n ix), rv b0, .val (.long (own_ngL (M / 100))), .second, iv ((own_n (M % 100))), iv ((own_n (cp - 1))), iv yn, .unset, .unset] [(.int (own_n (M % 100))), (.ref dO), (.int (own_n (cp - 1))), (.ref b0)])) rfl rfl (Y 22 rfl) _ ?_
  refine st4 _ ?_
  refine XS.aloadN X4.here hx rfl (Y 24 rfl) rfl rfl ?_
  refine XT.iincV X4.here hx rfl (-1 : Int32) (Y 25 rfl) (by decide) rfl (l' := #[.val (.long (own_ngL (M / 100))), .second, iv (own_n ix), rv b0, .val (.long (own_ngL (M / 100))), .second, iv ((own_n (M % 100))), iv (((own_n (cp - 1)) + (-1 : Int32))), iv yn, .unset, .unset]) rfl ?_
  show oS p e below T4 (mkF m 70 #[.val (.long (own_ngL (M / 100))), .second, iv (own_n ix), rv b0, .val (.long (own_ngL (M / 100))), .second, iv ((own_n (M % 100))), iv (((own_n (cp - 1)) + (-1 : Int32))), iv yn, .unset, .unset] [(.ref b0)]) _
  rw [own_ndec (k := cp - 1) (by omega) (by omega)]
  show oS p e below T4 (mkF m 70 #[.val (.long (own_ngL (M / 100))), .second, iv (own_n ix), rv b0, .val (.long (own_ngL (M / 100))), .second, iv ((own_n (M % 100))), iv ((own_n (cp - 1 - 1))), iv yn, .unset, .unset] [(.ref b0)]) _
  refine XS.iload X4.here hx rfl (Y 26 rfl) rfl ?_
  refine st6 _ ?_
  refine XS.iload X6.here hx rfl (Y 28 rfl) rfl ?_
  refine X6.baloadBytes hx (j := (own_n (M % 100))) (v := (.int (own_d2 (M % 100)))) (by rw [e6]; exact Ar8.1) (State.isArrayOf_alike hZ.alike Ar8.2.1) Ar8.2.2 hin8 hat8 (g := (mkF m 77 #[.val (.long (own_ngL (M / 100))), .second, iv (own_n ix), rv b0, .val (.long (own_ngL (M / 100))), .second, iv ((own_n (M % 100))), iv ((own_n (cp - 1 - 1))), iv yn, .unset, .unset] [(.int (own_n (M % 100))), (.ref dX), (.int (own_n (cp - 1 - 1))), (.ref b0)])) rfl rfl (Y 29 rfl) _ ?_
  refine st10 _ ?_
  refine XS.goto X10.here hx rfl (pc0 := 79) (pc' := 24) rfl (Y 31 rfl) (by decide) (by decide) ?_
  exact kz)
 exact ⟨T10, _, _, X10, e10, N10, K10, V10, fun tz kz => S11 tz kz⟩
theorem D_own_tK : oL jdk_35_method_14_code [(86, .iload 10, 2), (88, .bipush (-100), 2), (90, .if_icmp .gt 53, 3), (93, .iload 10, 2), (95, .bipush 100, 2), (97, .idiv, 1), (98, .istore 9, 2), (100, .iload 9, 2), (102, .bipush 100, 2), (104, .imul, 1), (105, .iload 10, 2), (107, .isub, 1), (108, .istore 6, 2), (110, .iload 9, 2), (112, .istore 10, 2), (114, .aload_n 3, 1), (115, .iinc 7 (-1), 3), (118, .iload 7, 2), (120, .getstatic 133, 3), (123, .iload 6, 2), (125, .baload, 1), (126, .bastore, 1), (127, .aload_n 3, 1), (128, .iinc 7 (-1), 3), (131, .iload 7, 2), (133, .getstatic 137, 3), (136, .iload 6, 2), (138, .baload, 1), (139, .bastore, 1), (140, .goto (-54), 3)] := by decide +kernel
theorem own_tK {p : Program} {l : Launch} {e : Env} {R : Room} {cells slots : Nat} {s : State} {m : MethodId} {args : Array Value} {below : List Frame} {meth : Method} {c : Code} {T0 : State} {locs : List Loc} {Z : State} {av0 : Array Value} {h0 : Heap} {n0 : Nat} (b0 : Addr) (cap : Nat) (g : Nat → Int32) (ix : Nat) (cp : Nat) (M : Nat) (yn : Int32) (dO : Addr) (dX : Addr) (xl : Int64) (x4 : Slot) (x5 : Slot) (x6 : Slot) (x9 : Slot) (X0 : Stand p l e R s m args below meth c T0 locs cells slots) (hx : p.tables.exec = Jvm.exec) (hZ : Z.Warmed39 s.vm) (hw : ∀ d ∈ tables_1, d.before av0 Z = true) (hby : c.code = jdk_35_method_14_code) (hml : c.maxLocals = 11) (hown : s.vm.findClass mN28.cls = some m.cls) (e0 : T0.heap = h0) (N0 : Fr n0 locs) (Z0 : n0 ≤ h0.size) (hB : own_Ab Z h0 b0 cap g) (hSO : Sta Z h0 "java/lang/Integer" "DigitOnes" "[B" (.ref dO)) (hSX : Sta Z h0 "java/lang/Integer" "DigitTens" "[B" (.ref dX)) (hAO : own_Ab Z h0 dO 100 own_d1) (hAX : own_Ab Z h0 dX 100 own_d2) (hnO : dO ≠ b0) (hnX : dX ≠ b0) (hgb : n0 ≤ b0) (hcp : 2 ≤ cp ∧ cp ≤ cap ∧ cap < 1000) (hM : M ≤ 2147483648 ∧ 100 ≤ M) (hx6 : own_I1 x6) (hx9 : own_I1 x9) :
    ∃ (T' : State) (h' : Heap) (locs' : List Loc), Stand p l e R s m args below meth c T' locs' cells slots ∧ T'.heap = h' ∧ Fr n0 locs' ∧ Keep h0 h' [b0] ∧ own_Ab Z h' b0 cap (own_up (own_up g (cp - 1) (own_d1 (M % 100))) (cp - 1 - 1) (own_d2 (M % 100))) ∧ ∀ tz, oS p e below T' (mkF m 86 #[.val (.long xl), .second, iv (own_n ix), rv b0, x4, x5, iv ((own_n (M % 100))), iv ((own_n (cp - 1 - 1))), iv yn, iv ((own_ng (M / 100))), iv ((own_ng (M / 100)))] []) tz → oS p e below T0 (mkF m 86 #[.val (.long xl), .second, iv (own_n ix), rv b0, x4, x5, x6, iv (own_n cp), iv yn, x9, iv (own_ng M)] []) tz := by
 have Y := @oY _ _ _ hby D_own_tK
 obtain ⟨T1, X1, e1, st1⟩ := getS2 X0 hx hZ hown (host := "") (Or.inl (oq hw 181 rfl)) Via.refl e0 hSO (g := (mkF m 120 #[.val (.long xl), .second, iv (own_n ix), rv b0, x4, x5, iv ((own_n (M % 100))), iv ((own_n (cp - 1))), iv yn, iv ((own_ng (M / 100))), iv ((own_ng (M / 100)))] [(.int (own_n (cp - 1))), (.ref b0)])) rfl (Y 18 rfl)
 obtain ⟨kc2, cl2, Ar2, qk2, Sz2, Ng2, Hs2, Gs2⟩ := id hAO
 have hin2 : ¬ ((own_n (M % 100)) < 0 ∨ cl2.slots.size ≤ ((own_n (M % 100))).toNatClampNeg) := own_inb (n := 100) (k := (M % 100)) Sz2 (by decide) (by omega)
 have hat2 : cl2.slots[((own_n (M % 100))).toNatClampNeg]? = some (.int (own_d1 (M % 100))) := own_at (n := 100) (k := (M % 100)) (g := own_d1) Hs2 Sz2 (by decide) (by omega) rfl
 obtain ⟨kc3, cl3, Ar3, qk3, Sz3, Ng3, Hs3, Gs3⟩ := id hB
 have hin3 : ¬ ((own_n (cp - 1)) < 0 ∨ cl3.slots.size ≤ ((own_n (cp - 1))).toNatClampNeg) := own_inb (n := cap) (k := (cp - 1)) Sz3 (by omega) (by omega)
 obtain ⟨T4, h4, X4, e4, W4, st4⟩ := stB X1 hx hZ e1 Ar3 (j := (own_n (cp - 1))) hin3 (g := (mkF m 126 #[.val (.long xl), .second, iv (own_n ix), rv b0, x4, x5, iv ((own_n (M % 100))), iv ((own_n (cp - 1))), iv yn, iv ((own_ng (M / 100))), iv ((own_ng (M / 100)))] [(.int (own_d1 (M % 100))), (.int (own_n (cp - 1))), (.ref b0)])) rfl rfl (Y 21 rfl)
 have N4 := Fr.snoc X4 N0 hgb
 have Z4 : n0 ≤ h4.size := Nat.le_trans Z0 (Nat.le_of_eq W4.size.symm)
 have K4 : Keep h0 h4 [b0] := (Keep.refl h0 [b0]).wr W4 (Or.inl (List.mem_of_getElem? (i := 0) rfl))
 rw [own_nd1] at W4
 have V4 : own_Ab Z h4 b0 cap (own_up g (cp - 1) (own_d1 (M % 100))) := own_arsetB (g := g) (k := (cp - 1)) Ar3 qk3 Sz3 Ng3 Hs3 Gs3 W4 (own_fd1 _) (by omega) (by omega)
 have f5 := (hSX.wr W4)
 obtain ⟨T6, X6, e6, st6⟩ := getS2 X4 hx hZ hown (host := "") (Or.inl (oq hw 283 rfl)) Via.refl e4 f5 (g := (mkF m 133 #[.val (.long xl), .second, iv (own_n ix), rv b0, x4, x5, iv ((own_n (M % 100))), iv ((own_n (cp - 1 - 1))), iv yn, iv ((own_ng (M / 100))), iv ((own_ng (M / 100)))] [(.int (own_n (cp - 1 - 1))), (.ref b0)])) rfl (Y 25 rfl)
 have f7 := (hAX.other W4 hnX)
 obtain ⟨kc8, cl8, Ar8, qk8, Sz8, Ng8, Hs8, Gs8⟩ := id f7
 have hin8 : ¬ ((own_n (M % 100)) < 0 ∨ cl8.slots.size ≤ ((own_n (M % 100))).toNatClampNeg) := own_inb (n := 100) (k := (M % 100)) Sz8 (by decide) (by omega)
 have hat8 : cl8.slots[((own_n (M % 100))).toNatClampNeg]? = some (.int (own_d2 (M % 100))) := own_at (n := 100) (k := (M % 100)) (g := own_d2) Hs8 Sz8 (by decide) (by omega) rfl
 obtain ⟨kc9, cl9, Ar9, qk9, Sz9, Ng9, Hs9, Gs9⟩ := id V4
 have hin9 : ¬ ((own_n (cp - 1 - 1)) < 0 ∨ cl9.slots.size ≤ ((own_n (cp - 1 - 1))).toNatClampNeg) := own_inb (n := cap) (k := (cp - 1 - 1)) Sz9 (by omega) (by omega)
 obtain ⟨T10, h10, X10, e10, W10, st10⟩ := stB X6 hx hZ e6 Ar9 (j := (own_n (cp - 1 - 1))) hin9 (g := (mkF m 139 #[.val (.long xl), .second, iv (own_n ix), rv b0, x4, x5, iv ((own_n (M % 100))), iv ((own_n (cp - 1 - 1))), iv yn, iv ((own_ng (M / 100))), iv ((own_ng (M / 100)))] [(.int (own_d2 (M % 100))), (.int (own_n (cp - 1 - 1))), (.ref b0)])) rfl rfl (Y 28 rfl)
 have N10 := Fr.snoc X10 N4 hgb
 have Z10 : n0 ≤ h10.size := Nat.le_trans Z4 (Nat.le_of_eq W10.size.symm)
 have K10 : Keep h0 h10 [b0] := K4.wr W10 (Or.inl (List.mem_of_getElem? (i := 0) rfl))
 rw [own_nd2 (by omega)] at W10
 have V10 : own_Ab Z h10 b0 cap (own_up (own_up g (cp - 1) (own_d1 (M % 100))) (cp - 1 - 1) (own_d2 (M % 100))) := own_arsetB (g := (own_up g (cp - 1) (own_d1 (M % 100)))) (k := (cp - 1 - 1)) Ar9 qk9 Sz9 Ng9 Hs9 Gs9 W10 (own_fd2 (by omega)) (by omega) (by omega)
 have S11 : ∀ tz, oS p e below T10 (mkF m 86 #[.val (.long xl), .second, iv (own_n ix), rv b0, x4, x5, iv ((own_n (M % 100))), iv ((own_n (cp - 1 - 1))), iv yn, iv ((own_ng (M / 100))), iv ((own_ng (M / 100)))] []) tz → oS p e below T0 (mkF m 86 #[.val (.long xl), .second, iv (own_n ix), rv b0, x4, x5, x6, iv (own_n cp), iv yn, x9, iv (own_ng M)] []) tz := fun tz kz => id (by
  refine XS.iload X0.here hx rfl (Y 0 rfl) rfl ?_
  refine XT.bipushV X0.here hx rfl (-100 : Int32) (Y 1 rfl) (by decide) ?_
  refine XS.icmpNo X0.here hx rfl (Y 2 rfl) rfl (XT.ii_gt_f (own_ngge hM.1 hM.2)) ?_
  refine XS.iload X0.here hx rfl (Y 3 rfl) rfl ?_
  refine XT.bipushV X0.here hx rfl (100 : Int32) (Y 4 rfl) (by decide) ?_
  refine XS.idiv X0.here hx rfl (Y 5 rfl) rfl (by decide) ?_
  show oS p e below T0 (mkF m 98 #[.val (.long xl), .second, iv (own_n ix), rv b0, x4, x5, x6, iv (own_n cp), iv yn, x9, iv (own_ng M)] [(.int ((own_ng M) / (100 : Int32)))]) _
  rw [own_ngdiv hM.1]
  show oS p e below T0 (mkF m 98 #[.val (.long xl), .second, iv (own_n ix), rv b0, x4, x5, x6, iv (own_n cp), iv yn, x9, iv (own_ng M)] [(.int (own_ng (M / 100)))]) _
  refine XS.istore X0.here hx rfl (Y 6 rfl) rfl (l' := #[.val (.long xl), .second, iv (own_n ix), rv b0, x4, x5, x6, iv (own_n cp), iv yn, iv ((own_ng (M / 100))), iv (own_ng M)]) (by rcases hx9 with z | ⟨y, z⟩ <;> subst z <;> rfl) ?_
  refine XS.iload X0.here hx rfl (Y 7 rfl) rfl ?_
  refine XT.bipushV X0.here hx rfl (100 : Int32) (Y 8 rfl) (by decide) ?_
  show oS p e below T0 (mkF m 104 #[.val (.long xl), .second, iv (own_n ix), rv b0, x4, x5, x6, iv (own_n cp), iv yn, iv ((own_ng (M / 100))), iv (own_ng M)] [(.int 100), (.int (own_ng (M / 100)))]) _
  refine XS.imul X0.here hx rfl (Y 9 rfl) rfl ?_
  refine XS.iload X0.here hx rfl (Y 10 rfl) rfl ?_
  refine XS.isub X0.here hx rfl (Y 11 rfl) rfl ?_
  show oS p e below T0 (mkF m 108 #[.val (.long xl), .second, iv (own_n ix), rv b0, x4, x5, x6, iv (own_n cp), iv yn, iv ((own_ng (M / 100))), iv (own_ng M)] [(.int (((own_ng (M / 100)) * (100 : Int32)) - (own_ng M)))]) _
  rw [own_ngrem hM.1]
  show oS p e below T0 (mkF m 108 #[.val (.long xl), .second, iv (own_n ix), rv b0, x4, x5, x6, iv (own_n cp), iv yn, iv ((own_ng (M / 100))), iv (own_ng M)] [(.int (own_n (M % 100)))]) _
  refine XS.istore X0.here hx rfl (Y 12 rfl) rfl (l' := #[.val (.long xl), .second, iv (own_n ix), rv b0, x4, x5, iv ((own_n (M % 100))), iv (own_n cp), iv yn, iv ((own_ng (M / 100))), iv (own_ng M)]) (by rcases hx6 with z | ⟨y, z⟩ <;> subst z <;> rfl) ?_
  refine XS.iload X0.here hx rfl (Y 13 rfl) rfl ?_
  refine XS.istore X0.here hx rfl (Y 14 rfl) rfl (l' := #[.val (.long xl), .second, iv (own_n ix), rv b0, x4, x5, iv ((own_n (M % 100))), iv (own_n cp), iv yn, iv ((own_ng (M / 100))), iv ((own_ng (M / 100)))]) rfl ?_
  refine XS.aloadN X0.here hx rfl (Y 15 rfl) rfl rfl ?_
  refine XT.iincV X0.here hx rfl (-1 : Int32) (Y 16 rfl) (by decide) rfl (l' := #[.val (.long xl), .second, iv (own_n ix), rv b0, x4, x5, iv ((own_n (M % 100))), iv (((own_n cp) + (-1 : Int32))), iv yn, iv ((own_ng (M / 100))), iv ((own_ng (M / 100)))]) rfl ?_
  show oS p e below T0 (mkF m 118 #[.val (.long xl), .second, iv (own_n ix), rv b0, x4, x5, iv ((own_n (M % 100))), iv (((own_n cp) + (-1 : Int32))), iv yn, iv ((own_ng (M / 100))), iv ((own_ng (M / 100)))] [(.ref b0)]) _
  rw [own_ndec (k := cp) (by omega) (by omega)]
  show oS p e below T0 (mkF m 118 #[.val (.long xl), .second, iv (own_n ix), rv b0, x4, x5, iv ((own_n (M % 100))), iv ((own_n (cp - 1))), iv yn, iv ((own_ng (M / 100))), iv ((own_ng (M / 100)))] [(.ref b0)]) _
  refine XS.iload X0.here hx rfl (Y 17 rfl) rfl ?_
  refine st1 _ ?_
  refine XS.iload X1.here hx rfl (Y 19 rfl) rfl ?_
  refine X1.baloadBytes hx (j := (own_n (M % 100))) (v := (.int (own_d1 (M % 100)))) (by rw [e1]; exact Ar2.1) (State.isArrayOf_alike hZ.alike Ar2.2.1) Ar2.2.2 hin2 hat2 (g := (mkF m 125 #[.val (.long xl), .second, iv (own_n ix), rv b0, x4, x5, iv ((own_n (M % 100))), iv ((own_n (cp - 1))), iv yn, iv ((own_ng (M / 100))), iv ((own_ng (M / 100)))] [(.int (own_n (M % 100))), (.ref dO), (.int (own_n (cp - 1))), (.ref b0)])) rfl rfl (Y 20 rfl) _ ?_
  refine st4 _ ?_
  refine XS.aloadN X4.here hx rfl (Y 22 rfl) rfl rfl ?_
  refine XT.iincV X4.here hx rfl (-1 : Int32) (Y 23 rfl) (by decide) rfl (l' := #[.val (.long xl), .second, iv (own_n ix), rv b0, x4, x5, iv ((own_n (M % 100))), iv (((own_n (cp - 1)) + (-1 : Int32))), iv yn, iv ((own_ng (M / 100))), iv ((own_ng (M / 100)))]) rfl ?_
  show oS p e below T4 (mkF m 131 #[.val (.long xl), .second, iv (own_n ix), rv b0, x4, x5, iv ((own_n (M % 100))), iv (((own_n (cp - 1)) + (-1 : Int32))), iv yn, iv ((own_ng (M / 100))), iv ((own_ng (M / 100)))] [(.ref b0)]) _
  rw [own_ndec (k := cp - 1) (by omega) (by omega)]
  show oS p e below T4 (mkF m 131 #[.val (.long xl), .second, iv (own_n ix), rv b0, x4, x5, iv ((own_n (M % 100))), iv ((own_n (cp - 1 - 1))), iv yn, iv ((own_ng (M / 100))), iv ((own_ng (M / 100)))] [(.ref b0)]) _
  refine XS.iload X4.here hx rfl (Y 24 rfl) rfl ?_
  refine st6 _ ?_
  show oS p e below T6 (mkF m 136 #[.val (.long xl), .second, iv (own_n ix), rv b0, x4, x5, iv ((own_n (M % 100))), iv ((own_n (cp - 1 - 1))), iv yn, iv ((own_ng (M / 100))), iv ((own_ng (M / 100)))] [(.ref dX), (.int (own_n (cp - 1 - 1))), (.ref b0)]) _
  refine XS.iload X6.here hx rfl (Y 26 rfl) rfl ?_
  refine X6.baloadBytes hx (j := (own_n (M % 100))) (v := (.int (own_d2 (M % 100)))) (by rw [e6]; exact Ar8.1) (State.isArrayOf_alike hZ.alike Ar8.2.1) Ar8.2.2 hin8 hat8 (g := (mkF m 138 #[.val (.long xl), .second, iv (own_n ix), rv b0, x4, x5, iv ((own_n (M % 100))), iv ((own_n (cp - 1 - 1))), iv yn, iv ((own_ng (M / 100))), iv ((own_ng (M / 100)))] [(.int (own_n (M % 100))), (.ref dX), (.int (own_n (cp - 1 - 1))), (.ref b0)])) rfl rfl (Y 27 rfl) _ ?_
  refine st10 _ ?_
  refine XS.goto X10.here hx rfl (pc0 := 140) (pc' := 86) rfl (Y 29 rfl) (by decide) (by decide) ?_
  exact kz)
 exact ⟨T10, _, _, X10, e10, N10, K10, V10, fun tz kz => S11 tz kz⟩
theorem own_I1.mk (y : Int32) : own_I1 (.val (.int y)) := Or.inr ⟨y, rfl⟩
theorem own_J2.mk (y : Int64) : own_J2 (.val (.long y)) .second := Or.inr ⟨y, rfl, rfl⟩
set_option maxHeartbeats 40000000 in
theorem own_lI {p : Program} {l : Launch} {e : Env} {R : Room} {s : State} {m : MethodId} {args : Array Value} {below : List Frame} {meth : Method} {c : Code} {cells slots : Nat} {Z : State} {av0 : Array Value} {n0 : Nat} (b0 : Addr) (cap ix : Nat) (yn : Int32) (dO dX : Addr) 
    (hx : p.tables.exec = Jvm.exec) (hZ : Z.Warmed39 s.vm) (hw : ∀ d ∈ tables_1, d.before av0 Z = true) (hby : c.code = jdk_33_method_12_code) (hml : c.maxLocals = 7) (hown : s.vm.findClass mN27.cls = some m.cls) (hnO : dO ≠ b0) (hnX : dX ≠ b0) (hgb : n0 ≤ b0) (hcap : cap < 1000) :
    ∀ (M : Nat) (g : Nat → Int32) (cp : Nat) (x3 x4 : Slot) (T0 : State) (locs : List Loc) (h0 : Heap), M ≤ 2147483648 → own_dg M ≤ cp → cp ≤ cap → own_I1 x3 ∧ own_I1 x4 → Stand p l e R s m args below meth c T0 locs cells slots → T0.heap = h0 → Fr n0 locs → n0 ≤ h0.size → own_Ab Z h0 b0 cap g → Sta Z h0 "java/lang/Integer" "DigitOnes" "[B" (.ref dO) → Sta Z h0 "java/lang/Integer" "DigitTens" "[B" (.ref dX) → own_Ab Z h0 dO 100 own_d1 → own_Ab Z h0 dX 100 own_d2 →
    ∃ (T' : State) (h' : Heap) (locs' : List Loc) (M' : Nat) (g' : Nat → Int32) (cp' : Nat) (x3' x4' : Slot), M' < 100 ∧ own_dg M' ≤ cp' ∧ cp' - own_dg M' = cp - own_dg M ∧ cp' ≤ cap ∧ (∀ i, own_wr g' cp' M' i = own_wr g cp M i) ∧ (own_I1 x3' ∧ own_I1 x4') ∧ Stand p l e R s m args below meth c T' locs' cells slots ∧ T'.heap = h' ∧ Fr n0 locs' ∧ Keep h0 h' [b0] ∧ own_Ab Z h' b0 cap g' ∧ ∀ tz, oS p e below T' (mkF m 22 #[iv (own_ng M'), iv (own_n ix), rv b0, x3', x4', iv (own_n cp'), iv yn] []) tz → oS p e below T0 (mkF m 22 #[iv (own_ng M), iv (own_n ix), rv b0, x3, x4, iv (own_n cp), iv yn] []) tz := by
  intro M
  induction M using Nat.strongRecOn with
  | ind M ih =>
    intro g cp x3 x4 T0 locs h0 hM hd hc hsl X0 e0 N0 Z0 hB hSO hSX hAO hAX
    by_cases hlow : M < 100
    · exact ⟨T0, h0, locs, M, g, cp, x3, x4, hlow, hd, rfl, hc, fun _ => rfl, hsl, X0, e0, N0, Keep.refl _ _, hB, fun _ kz => kz⟩
    · have h100 := own_dg100 (M := M) (by omega)
      have hp := own_dgpos (M / 100)
      obtain ⟨T1, h1, l1, X1, e1, N1, K1, A1, S1⟩ := own_tI b0 cap g ix cp M yn dO dX x3 x4 X0 hx hZ hw hby hml hown e0 N0 Z0 hB hSO hSX hAO hAX hnO hnX hgb ⟨by omega, hc, hcap⟩ ⟨hM, by omega⟩ hsl.1 hsl.2
      have nb : ∀ x ∈ [b0], ∀ cq : Cell, h0[x]? = some cq → cq.vm.isStatics = false := allS hB.ns all0
      obtain ⟨T2, h2, l2, M2, g2, c2, x3', x4', q1, q2, q3, q4, q5, q6, X2, e2, N2, K2, A2, S2⟩ := ih (M / 100) (by omega) _ (cp - 1 - 1) _ _ T1 l1 h1 (by omega) (by omega) (by omega) ⟨own_I1.mk _, own_I1.mk _⟩ X1 e1 N1 (Nat.le_trans Z0 K1.1) A1 (own_stak hSO K1 nb) (own_stak hSX K1 nb) (hAO.keep K1 (ninS hnO nin0)) (hAX.keep K1 (ninS hnX nin0))
      exact ⟨T2, h2, l2, M2, g2, c2, x3', x4', q1, q2, by omega, q4, fun i => (q5 i).trans (own_wrS g (by omega) hd i), q6, X2, e2, N2, K1.trans K2 (fun x hx => Or.inl hx), A2, fun tz kz => S1 tz (S2 tz kz)⟩
set_option maxHeartbeats 40000000 in
theorem own_lL {p : Program} {l : Launch} {e : Env} {R : Room} {s : State} {m : MethodId} {args : Array Value} {below : List Frame} {meth : Method} {c : Code} {cells slots : Nat} {Z : State} {av0 : Array Value} {n0 : Nat} (b0 : Addr) (cap ix : Nat) (yn : Int32) (dO dX : Addr) 
    (hx : p.tables.exec = Jvm.exec) (hZ : Z.Warmed39 s.vm) (hw : ∀ d ∈ tables_1, d.before av0 Z = true) (hby : c.code = jdk_35_method_14_code) (hml : c.maxLocals = 11) (hown : s.vm.findClass mN28.cls = some m.cls) (hnO : dO ≠ b0) (hnX : dX ≠ b0) (hgb : n0 ≤ b0) (hcap : cap < 1000) :
    ∀ (M : Nat) (g : Nat → Int32) (cp : Nat) (x4 x5 x6 : Slot) (T0 : State) (locs : List Loc) (h0 : Heap), M ≤ 9223372036854775808 → own_dg M ≤ cp → cp ≤ cap → own_J2 x4 x5 ∧ own_I1 x6 → Stand p l e R s m args below meth c T0 locs cells slots → T0.heap = h0 → Fr n0 locs → n0 ≤ h0.size → own_Ab Z h0 b0 cap g → Sta Z h0 "java/lang/Integer" "DigitOnes" "[B" (.ref dO) → Sta Z h0 "java/lang/Integer" "DigitTens" "[B" (.ref dX) → own_Ab Z h0 dO 100 own_d1 → own_Ab Z h0 dX 100 own_d2 →
    ∃ (T' : State) (h' : Heap) (locs' : List Loc) (M' : Nat) (g' : Nat → Int32) (cp' : Nat) (x4' x5' x6' : Slot), M' < 2147483648 ∧ own_dg M' ≤ cp' ∧ cp' - own_dg M' = cp - own_dg M ∧ cp' ≤ cap ∧ (∀ i, own_wr g' cp' M' i = own_wr g cp M i) ∧ (own_J2 x4' x5' ∧ own_I1 x6') ∧ Stand p l e R s m args below meth c T' locs' cells slots ∧ T'.heap = h' ∧ Fr n0 locs' ∧ Keep h0 h' [b0] ∧ own_Ab Z h' b0 cap g' ∧ ∀ tz, oS p e below T' (mkF m 24 #[.val (.long (own_ngL M')), .second, iv (own_n ix), rv b0, x4', x5', x6', iv (own_n cp'), iv yn, .unset, .unset] []) tz → oS p e below T0 (mkF m 24 #[.val (.long (own_ngL M)), .second, iv (own_n ix), rv b0, x4, x5, x6, iv (own_n cp), iv yn, .unset, .unset] []) tz := by
  intro M
  induction M using Nat.strongRecOn with
  | ind M ih =>
    intro g cp x4 x5 x6 T0 locs h0 hM hd hc hsl X0 e0 N0 Z0 hB hSO hSX hAO hAX
    by_cases hlow : M < 2147483648
    · exact ⟨T0, h0, locs, M, g, cp, x4, x5, x6, hlow, hd, rfl, hc, fun _ => rfl, hsl, X0, e0, N0, Keep.refl _ _, hB, fun _ kz => kz⟩
    · have h100 := own_dg100 (M := M) (by omega)
      have hp := own_dgpos (M / 100)
      obtain ⟨T1, h1, l1, X1, e1, N1, K1, A1, S1⟩ := own_tL b0 cap g ix cp M yn dO dX x4 x5 x6 X0 hx hZ hw hby hml hown e0 N0 Z0 hB hSO hSX hAO hAX hnO hnX hgb ⟨by omega, hc, hcap⟩ ⟨hM, by omega⟩ hsl.1 hsl.2
      have nb : ∀ x ∈ [b0], ∀ cq : Cell, h0[x]? = some cq → cq.vm.isStatics = false := allS hB.ns all0
      obtain ⟨T2, h2, l2, M2, g2, c2, x4', x5', x6', q1, q2, q3, q4, q5, q6, X2, e2, N2, K2, A2, S2⟩ := ih (M / 100) (by omega) _ (cp - 1 - 1) _ _ _ T1 l1 h1 (by omega) (by omega) (by omega) ⟨own_J2.mk _, own_I1.mk _⟩ X1 e1 N1 (Nat.le_trans Z0 K1.1) A1 (own_stak hSO K1 nb) (own_stak hSX K1 nb) (hAO.keep K1 (ninS hnO nin0)) (hAX.keep K1 (ninS hnX nin0))
      exact ⟨T2, h2, l2, M2, g2, c2, x4', x5', x6', q1, q2, by omega, q4, fun i => (q5 i).trans (own_wrS g (by omega) hd i), q6, X2, e2, N2, K1.trans K2 (fun x hx => Or.inl hx), A2, fun tz kz => S1 tz (S2 tz kz)⟩
set_option maxHeartbeats 40000000 in
theorem own_lK {p : Program} {l : Launch} {e : Env} {R : Room} {s : State} {m : MethodId} {args : Array Value} {below : List Frame} {meth : Method} {c : Code} {cells slots : Nat} {Z : State} {av0 : Array Value} {n0 : Nat} (b0 : Addr) (cap ix : Nat) (yn : Int32) (dO dX : Addr) (xl : Int64) (x4 : Slot) (x5 : Slot) 
    (hx : p.tables.exec = Jvm.exec) (hZ : Z.Warmed39 s.vm) (hw : ∀ d ∈ tables_1, d.before av0 Z = true) (hby : c.code = jdk_35_method_14_code) (hml : c.maxLocals = 11) (hown : s.vm.findClass mN28.cls = some m.cls) (hnO : dO ≠ b0) (hnX : dX ≠ b0) (hgb : n0 ≤ b0) (hcap : cap < 1000) :
    ∀ (M : Nat) (g : Nat → Int32) (cp : Nat) (x6 x9 : Slot) (T0 : State) (locs : List Loc) (h0 : Heap), M ≤ 2147483648 → own_dg M ≤ cp → cp ≤ cap → own_I1 x6 ∧ own_I1 x9 → Stand p l e R s m args below meth c T0 locs cells slots → T0.heap = h0 → Fr n0 locs → n0 ≤ h0.size → own_Ab Z h0 b0 cap g → Sta Z h0 "java/lang/Integer" "DigitOnes" "[B" (.ref dO) → Sta Z h0 "java/lang/Integer" "DigitTens" "[B" (.ref dX) → own_Ab Z h0 dO 100 own_d1 → own_Ab Z h0 dX 100 own_d2 →
    ∃ (T' : State) (h' : Heap) (locs' : List Loc) (M' : Nat) (g' : Nat → Int32) (cp' : Nat) (x6' x9' : Slot), M' < 100 ∧ own_dg M' ≤ cp' ∧ cp' - own_dg M' = cp - own_dg M ∧ cp' ≤ cap ∧ (∀ i, own_wr g' cp' M' i = own_wr g cp M i) ∧ (own_I1 x6' ∧ own_I1 x9') ∧ Stand p l e R s m args below meth c T' locs' cells slots ∧ T'.heap = h' ∧ Fr n0 locs' ∧ Keep h0 h' [b0] ∧ own_Ab Z h' b0 cap g' ∧ ∀ tz, oS p e below T' (mkF m 86 #[.val (.long xl), .second, iv (own_n ix), rv b0, x4, x5, x6', iv (own_n cp'), iv yn, x9', iv (own_ng M')] []) tz → oS p e below T0 (mkF m 86 #[.val (.long xl), .second, iv (own_n ix), rv b0, x4, x5, x6, iv (own_n cp), iv yn, x9, iv (own_ng M)] []) tz := by
  intro M
  induction M using Nat.strongRecOn with
  | ind M ih =>
    intro g cp x6 x9 T0 locs h0 hM hd hc hsl X0 e0 N0 Z0 hB hSO hSX hAO hAX
    by_cases hlow : M < 100
    · exact ⟨T0, h0, locs, M, g, cp, x6, x9, hlow, hd, rfl, hc, fun _ => rfl, hsl, X0, e0, N0, Keep.refl _ _, hB, fun _ kz => kz⟩
    · have h100 := own_dg100 (M := M) (by omega)
      have hp := own_dgpos (M / 100)
      obtain ⟨T1, h1, l1, X1, e1, N1, K1, A1, S1⟩ := own_tK b0 cap g ix cp M yn dO dX xl x4 x5 x6 x9 X0 hx hZ hw hby hml hown e0 N0 Z0 hB hSO hSX hAO hAX hnO hnX hgb ⟨by omega, hc, hcap⟩ ⟨hM, by omega⟩ hsl.1 hsl.2
      have nb : ∀ x ∈ [b0], ∀ cq : Cell, h0[x]? = some cq → cq.vm.isStatics = false := allS hB.ns all0
      obtain ⟨T2, h2, l2, M2, g2, c2, x6', x9', q1, q2, q3, q4, q5, q6, X2, e2, N2, K2, A2, S2⟩ := ih (M / 100) (by omega) _ (cp - 1 - 1) _ _ T1 l1 h1 (by omega) (by omega) (by omega) ⟨own_I1.mk _, own_I1.mk _⟩ X1 e1 N1 (Nat.le_trans Z0 K1.1) A1 (own_stak hSO K1 nb) (own_stak hSX K1 nb) (hAO.keep K1 (ninS hnO nin0)) (hAX.keep K1 (ninS hnX nin0))
      exact ⟨T2, h2, l2, M2, g2, c2, x6', x9', q1, q2, by omega, q4, fun i => (q5 i).trans (own_wrS g (by omega) hd i), q6, X2, e2, N2, K1.trans K2 (fun x hx => Or.inl hx), A2, fun tz kz => S1 tz (S2 tz kz)⟩
theorem D_rmGI : oL jdk_33_method_12_code [(0, .iload_n 1, 1), (1, .istore 5, 2), (3, .iload_n 0, 1), (4, .ifCond .ge 7, 3), (7, .iconst 1, 1), (8, .goto 4, 3), (12, .istore 6, 2), (14, .iload 6, 2), (16, .ifCond .ne 6, 3), (22, .iload_n 0, 1), (23, .bipush (-100), 2), (25, .if_icmp .gt 47, 3), (72, .aload_n 2, 1), (73, .iinc 5 (-1), 3), (76, .iload 5, 2), (78, .getstatic 83, 3), (81, .iload_n 0, 1), (82, .ineg, 1), (83, .baload, 1), (84, .bastore, 1), (85, .iload_n 0, 1), (86, .bipush (-9), 2), (88, .if_icmp .ge 16, 3), (91, .aload_n 2, 1), (92, .iinc 5 (-1), 3), (95, .iload 5, 2), (97, .getstatic 87, 3), (100, .iload_n 0, 1), (101, .ineg, 1), (102, .baload, 1), (103, .bastore, 1), (104, .iload 6, 2), (106, .ifCond .eq 12, 3), (109, .aload_n 2, 1), (110, .iinc 5 (-1), 3), (113, .iload 5, 2), (115, .bipush 45, 2), (117, .bastore, 1), (118, .iload 5, 2), (120, .ireturn, 1), (11, .iconst 0, 1), (19, .iload_n 0, 1), (20, .ineg, 1), (21, .istore_n 0, 1)] := by decide +kernel
def QrmGI (Z : State) (y : Int32) (ix : Nat) (b0 : Addr) (cap : Nat) (g : Nat → Int32) (dO : Addr) (dX : Addr) (h0 : Heap) (n0 : Nat) (v : Option Value) (h : Heap) (L : List Loc) : Prop := ∃ zr : Int32, v = some (.int zr) ∧ Fr n0 L ∧ Keep h0 h [b0] ∧ ∃ gn : Nat → Int32, own_Ab Z h b0 cap gn ∧ (∀ i, i < ix - own_sz y.toInt → gn i = g i) ∧ (∀ i, i < own_sz y.toInt → gn (ix - own_sz y.toInt + i) = own_num y.toInt i)
theorem rmGI (l : Launch) (Z : State) (av0 : Array Value) (hw : ∀ d ∈ tables_1, d.before av0 Z = true) (ws : List Jvm.Cond) (y : Int32) (ix : Nat) (b0 : Addr) (cap : Nat) (g : Nat → Int32) (dO : Addr) (dX : Addr) (h0 : Heap) (n0 : Nat) (Z0 : n0 ≤ h0.size) (hB : own_Ab Z h0 b0 cap g) (hSO : Sta Z h0 "java/lang/Integer" "DigitOnes" "[B" (.ref dO)) (hSX : Sta Z h0 "java/lang/Integer" "DigitTens" "[B" (.ref dX)) (hAO : own_Ab Z h0 dO 100 own_d1) (hAX : own_Ab Z h0 dX 100 own_d2) (hnO : dO ≠ b0) (hnX : dX ≠ b0) (hgb : n0 ≤ b0) (hbd : own_sz y.toInt ≤ ix ∧ ix ≤ cap ∧ cap < 1000) :
   own_Met l mN27 jdk_33_method_12_code 7 (some .int) ws ({ frames := 0, cells := 0, slots := 0, locals := 0 } : Room) #[(.int y), (.int (own_n ix)), (.ref b0)] Z h0 (QrmGI Z y ix b0 cap g dO dX h0 n0) := by
 refine MetFree.of_bodySF (plainFor_of_name pn_Integer) hisR ?_
 intro p e s m args below meth c s₁ Bd hml0 hP hK
 obtain ⟨rfl, hZ, hh⟩ := hP
 have hml : c.maxLocals = 7 := hml0
 obtain ⟨hx, hby, hown, hnm, X0, e0⟩ := own_start Bd hml0 hh
 have N0 := Fr.nil n0
 have Y := @oY _ _ _ hby D_rmGI
 obtain ⟨P0, in0, pre0⟩ : ∃ P : State → Prop, (∀ tz, oS p e below s₁ (mkF m 0 #[iv y, iv (own_n ix), rv b0, .unset, .unset, .unset, .unset] []) tz → P tz) ∧ ∀ tz, P tz → Steps p.tables e below (s₁.setTop (entryFrame m #[(.int y), (.int (own_n ix)), (.ref b0)] 7)) tz := ⟨_, fun _ kz => kz, fun tz kz => castTop (by first | (simp [entryFrame, mkF, argsToLocals, Value.category]; done) | rfl) kz⟩
 obtain ⟨N, hN⟩ : ∃ N, N = y.toInt.natAbs := ⟨_, rfl⟩
 have hrg := rng32 y
 have hpN := own_dgpos N
 have S1 : ∀ tz, oS p e below s₁ (mkF m 4 #[iv y, iv (own_n ix), rv b0, .unset, .unset, iv (own_n ix), .unset] [(.int y)]) tz → P0 tz := fun tz kz => in0 tz (by
  refine XS.iloadN X0.here hx rfl (Y 0 rfl) rfl ?_
  refine XS.istore X0.here hx rfl (Y 1 rfl) rfl (l' := #[iv y, iv (own_n ix), rv b0, .unset, .unset, iv (own_n ix), .unset]) rfl ?_
  refine XS.iloadN X0.here hx rfl (Y 2 rfl) rfl ?_
  exact kz)
 by_cases hc4_2 : y < (0 : Int32)
 ·have hz : y.toInt < 0 := own_gtT (k := y.toInt) (z := 0) hc4_2 rfl rfl
  have hy0 : y = own_ng N := by rw [hN]; exact own_ngof hc4_2
  have hsz : own_sz y.toInt = own_dg N + 1 := by unfold own_sz; rw [if_pos hz, hN]
  have S3 : ∀ tz, oS p e below s₁ (mkF m 22 #[iv (own_ng N), iv (own_n ix), rv b0, .unset, .unset, iv (own_n ix), iv 1] []) tz → P0 tz := fun tz kz => S1 tz (by
   refine XS.ifNo X0.here hx rfl (Y 3 rfl) rfl (XT.i0_ge_f hc4_2) ?_
   refine XT.iconstV X0.here hx rfl (1 : Int32) (Y 4 rfl) (by decide) ?_
   refine XS.goto X0.here hx rfl (pc0 := 8) (pc' := 12) rfl (Y 5 rfl) (by decide) (by decide) ?_
   refine XS.istore X0.here hx rfl (Y 6 rfl) rfl (l' := #[iv y, iv (own_n ix), rv b0, .unset, .unset, iv (own_n ix), iv 1]) rfl ?_
   refine XS.iload X0.here hx rfl (Y 7 rfl) rfl ?_
   refine XS.ifYes X0.here hx rfl (pc0 := 16) (pc' := 22) rfl (Y 8 rfl) rfl (XT.i0_ne_t (by decide)) (by decide) (by decide) ?_
   show oS p e below s₁ (mkF m 22 #[iv y, iv (own_n ix), rv b0, .unset, .unset, iv (own_n ix), iv 1] []) _
   rw [hy0]
   show oS p e below s₁ (mkF m 22 #[iv (own_ng N), iv (own_n ix), rv b0, .unset, .unset, iv (own_n ix), iv 1] []) _
   exact kz)
  obtain ⟨T4, h4, l4, Mq4, gq4, cq4, xs4_0, xs4_1, qa4, qb4, qc4, qd4, qe4, qf4, X4, e4, N4, K4, A4, st4⟩ := own_lI b0 cap ix (1 : Int32) dO dX hx hZ hw hby hml hown hnO hnX hgb hbd.2.2 N g ix .unset .unset s₁ _ _ (by omega) (by omega) (by omega) ⟨Or.inl rfl, Or.inl rfl⟩ X0 e0 N0 Z0 hB hSO hSX hAO hAX
  have hp4 := own_dgpos Mq4
  have Zk4 : n0 ≤ h4.size := Nat.le_trans Z0 K4.1
  have f5 := (own_stak hSO K4 (allS hB.ns all0))
  obtain ⟨T6, X6, e6, st6⟩ := getS2 X4 hx hZ hown (host := "") (Or.inl (oq hw 161 rfl)) Via.refl e4 f5 (g := (mkF m 78 #[iv (own_ng Mq4), iv (own_n ix), rv b0, xs4_0, xs4_1, iv ((own_n (cq4 - 1))), iv 1] [(.int (own_n (cq4 - 1))), (.ref b0)])) rfl (Y 15 rfl)
  have f7 := (hAO.keep K4 (ninS hnO nin0))
  obtain ⟨kc8, cl8, Ar8, qk8, Sz8, Ng8, Hs8, Gs8⟩ := id f7
  have hin8 : ¬ ((own_n Mq4) < 0 ∨ cl8.slots.size ≤ ((own_n Mq4)).toNatClampNeg) := own_inb (n := 100) (k := Mq4) Sz8 (by decide) (by omega)
  have hat8 : cl8.slots[((own_n Mq4)).toNatClampNeg]? = some (.int (own_d1 Mq4)) := own_at (n := 100) (k := Mq4) (g := own_d1) Hs8 Sz8 (by decide) (by omega) rfl
  obtain ⟨kc9, cl9, Ar9, qk9, Sz9, Ng9, Hs9, Gs9⟩ := id A4
  have hin9 : ¬ ((own_n (cq4 - 1)) < 0 ∨ cl9.slots.size ≤ ((own_n (cq4 - 1))).toNatClampNeg) := own_inb (n := cap) (k := (cq4 - 1)) Sz9 (by omega) (by omega)
  obtain ⟨T10, h10, X10, e10, W10, st10⟩ := stB X6 hx hZ e6 Ar9 (j := (own_n (cq4 - 1))) hin9 (g := (mkF m 84 #[iv (own_ng Mq4), iv (own_n ix), rv b0, xs4_0, xs4_1, iv ((own_n (cq4 - 1))), iv 1] [(.int (own_d1 Mq4)), (.int (own_n (cq4 - 1))), (.ref b0)])) rfl rfl (Y 19 rfl)
  have N10 := Fr.snoc X10 N4 hgb
  have Z10 : n0 ≤ h10.size := Nat.le_trans Zk4 (Nat.le_of_eq W10.size.symm)
  have K10 : Keep h0 h10 [b0] := K4.wr W10 (Or.inl (List.mem_of_getElem? (i := 0) rfl))
  rw [own_nd1] at W10
  have V10 : own_Ab Z h10 b0 cap (own_up gq4 (cq4 - 1) (own_d1 Mq4)) := own_arsetB (g := gq4) (k := (cq4 - 1)) Ar9 qk9 Sz9 Ng9 Hs9 Gs9 W10 (own_fd1 _) (by omega) (by omega)
  have S11 : ∀ tz, oS p e below T10 (mkF m 88 #[iv (own_ng Mq4), iv (own_n ix), rv b0, xs4_0, xs4_1, iv ((own_n (cq4 - 1))), iv 1] [(.int (-9)), (.int (own_ng Mq4))]) tz → P0 tz := fun tz kz => S3 tz (by
   refine st4 _ ?_
   show oS p e below T4 (mkF m 22 #[iv (own_ng Mq4), iv (own_n ix), rv b0, xs4_0, xs4_1, iv (own_n cq4), iv 1] []) _
   refine XS.iloadN X4.here hx rfl (Y 9 rfl) rfl ?_
   refine XT.bipushV X4.here hx rfl (-100 : Int32) (Y 10 rfl) (by decide) ?_
   refine XS.icmpYes X4.here hx rfl (pc0 := 25) (pc' := 72) rfl (Y 11 rfl) rfl (XT.ii_gt_t (own_nglt qa4)) (by decide) (by decide) ?_
   refine XS.aloadN X4.here hx rfl (Y 12 rfl) rfl rfl ?_
   refine XT.iincV X4.here hx rfl (-1 : Int32) (Y 13 rfl) (by decide) rfl (l' := #[iv (own_ng Mq4), iv (own_n ix), rv b0, xs4_0, xs4_1, iv (((own_n cq4) + (-1 : Int32))), iv 1]) rfl ?_
   show oS p e below T4 (mkF m 76 #[iv (own_ng Mq4), iv (own_n ix), rv b0, xs4_0, xs4_1, iv (((own_n cq4) + (-1 : Int32))), iv 1] [(.ref b0)]) _
   rw [own_ndec (k := cq4) (by omega) (by omega)]
   show oS p e below T4 (mkF m 76 #[iv (own_ng Mq4), iv (own_n ix), rv b0, xs4_0, xs4_1, iv ((own_n (cq4 - 1))), iv 1] [(.ref b0)]) _
   refine XS.iload X4.here hx rfl (Y 14 rfl) rfl ?_
   refine st6 _ ?_
   refine XS.iloadN X6.here hx rfl (Y 16 rfl) rfl ?_
   show oS p e below T6 (mkF m 82 #[iv (own_ng Mq4), iv (own_n ix), rv b0, xs4_0, xs4_1, iv ((own_n (cq4 - 1))), iv 1] [(.int (own_ng Mq4)), (.ref dO), (.int (own_n (cq4 - 1))), (.ref b0)]) _
   refine XS.ineg X6.here hx rfl (Y 17 rfl) rfl ?_
   show oS p e below T6 (mkF m 83 #[iv (own_ng Mq4), iv (own_n ix), rv b0, xs4_0, xs4_1, iv ((own_n (cq4 - 1))), iv 1] [(.int (-(own_ng Mq4))), (.ref dO), (.int (own_n (cq4 - 1))), (.ref b0)]) _
   rw [own_ngneg (by omega)]
   show oS p e below T6 (mkF m 83 #[iv (own_ng Mq4), iv (own_n ix), rv b0, xs4_0, xs4_1, iv ((own_n (cq4 - 1))), iv 1] [(.int (own_n Mq4)), (.ref dO), (.int (own_n (cq4 - 1))), (.ref b0)]) _
   refine X6.baloadBytes hx (j := (own_n Mq4)) (v := (.int (own_d1 Mq4))) (by rw [e6]; exact Ar8.1) (State.isArrayOf_alike hZ.alike Ar8.2.1) Ar8.2.2 hin8 hat8 (g := (mkF m 83 #[iv (own_ng Mq4), iv (own_n ix), rv b0, xs4_0, xs4_1, iv ((own_n (cq4 - 1))), iv 1] [(.int (own_n Mq4)), (.ref dO), (.int (own_n (cq4 - 1))), (.ref b0)])) rfl rfl (Y 18 rfl) _ ?_
   refine st10 _ ?_
   refine XS.iloadN X10.here hx rfl (Y 20 rfl) rfl ?_
   refine XT.bipushV X10.here hx rfl (-9 : Int32) (Y 21 rfl) (by decide) ?_
   exact kz)
  by_cases hc88_12 : (own_ng Mq4) < (-9 : Int32)
  ·have h10 := (own_ng9 qa4).mp hc88_12
   have hdd : own_dg Mq4 = 2 := by rw [own_dgS h10, own_dg1 (by omega)]
   have f13 := ((own_stak hSX K4 (allS hB.ns all0)).wr W10)
   obtain ⟨T14, X14, e14, st14⟩ := getS2 X10 hx hZ hown (host := "") (Or.inl (oq hw 284 rfl)) Via.refl e10 f13 (g := (mkF m 97 #[iv (own_ng Mq4), iv (own_n ix), rv b0, xs4_0, xs4_1, iv ((own_n ((cq4 - 1) - 1))), iv 1] [(.int (own_n ((cq4 - 1) - 1))), (.ref b0)])) rfl (Y 26 rfl)
   have f15 := ((hAX.keep K4 (ninS hnX nin0)).other W10 hnX)
   obtain ⟨kc16, cl16, Ar16, qk16, Sz16, Ng16, Hs16, Gs16⟩ := id f15
   have hin16 : ¬ ((own_n Mq4) < 0 ∨ cl16.slots.size ≤ ((own_n Mq4)).toNatClampNeg) := own_inb (n := 100) (k := Mq4) Sz16 (by decide) (by omega)
   have hat16 : cl16.slots[((own_n Mq4)).toNatClampNeg]? = some (.int (own_d2 Mq4)) := own_at (n := 100) (k := Mq4) (g := own_d2) Hs16 Sz16 (by decide) (by omega) rfl
   obtain ⟨kc17, cl17, Ar17, qk17, Sz17, Ng17, Hs17, Gs17⟩ := id V10
   have hin17 : ¬ ((own_n ((cq4 - 1) - 1)) < 0 ∨ cl17.slots.size ≤ ((own_n ((cq4 - 1) - 1))).toNatClampNeg) := own_inb (n := cap) (k := ((cq4 - 1) - 1)) Sz17 (by omega) (by omega)
   obtain ⟨T18, h18, X18, e18, W18, st18⟩ := stB X14 hx hZ e14 Ar17 (j := (own_n ((cq4 - 1) - 1))) hin17 (g := (mkF m 103 #[iv (own_ng Mq4), iv (own_n ix), rv b0, xs4_0, xs4_1, iv ((own_n ((cq4 - 1) - 1))), iv 1] [(.int (own_d2 Mq4)), (.int (own_n ((cq4 - 1) - 1))), (.ref b0)])) rfl rfl (Y 30 rfl)
   have N18 := Fr.snoc X18 N10 hgb
   have Z18 : n0 ≤ h18.size := Nat.le_trans Z10 (Nat.le_of_eq W18.size.symm)
   have K18 : Keep h0 h18 [b0] := K10.wr W18 (Or.inl (List.mem_of_getElem? (i := 0) rfl))
   rw [own_nd2 (by omega)] at W18
   have V18 : own_Ab Z h18 b0 cap (own_up (own_up gq4 (cq4 - 1) (own_d1 Mq4)) ((cq4 - 1) - 1) (own_d2 Mq4)) := own_arsetB (g := (own_up gq4 (cq4 - 1) (own_d1 Mq4))) (k := ((cq4 - 1) - 1)) Ar17 qk17 Sz17 Ng17 Hs17 Gs17 W18 (own_fd2 (by omega)) (by omega) (by omega)
   obtain ⟨kc19, cl19, Ar19, qk19, Sz19, Ng19, Hs19, Gs19⟩ := id V18
   have hin19 : ¬ ((own_n (((cq4 - 1) - 1) - 1)) < 0 ∨ cl19.slots.size ≤ ((own_n (((cq4 - 1) - 1) - 1))).toNatClampNeg) := own_inb (n := cap) (k := (((cq4 - 1) - 1) - 1)) Sz19 (by omega) (by omega)
   obtain ⟨T20, h20, X20, e20, W20, st20⟩ := stB X18 hx hZ e18 Ar19 (j := (own_n (((cq4 - 1) - 1) - 1))) hin19 (g := (mkF m 117 #[iv (own_ng Mq4), iv (own_n ix), rv b0, xs4_0, xs4_1, iv ((own_n (((cq4 - 1) - 1) - 1))), iv 1] [(.int 45), (.int (own_n (((cq4 - 1) - 1) - 1))), (.ref b0)])) rfl rfl (Y 37 rfl)
   have N20 := Fr.snoc X20 N18 hgb
   have Z20 : n0 ≤ h20.size := Nat.le_trans Z18 (Nat.le_of_eq W20.size.symm)
   have K20 : Keep h0 h20 [b0] := K18.wr W20 (Or.inl (List.mem_of_getElem? (i := 0) rfl))
   rw [show nar .byte (45 : Int32) = (45 : Int32) from rfl] at W20
   have V20 : own_Ab Z h20 b0 cap (own_up (own_up (own_up gq4 (cq4 - 1) (own_d1 Mq4)) ((cq4 - 1) - 1) (own_d2 Mq4)) (((cq4 - 1) - 1) - 1) (45 : Int32)) := own_arsetB (g := (own_up (own_up gq4 (cq4 - 1) (own_d1 Mq4)) ((cq4 - 1) - 1) (own_d2 Mq4))) (k := (((cq4 - 1) - 1) - 1)) Ar19 qk19 Sz19 Ng19 Hs19 Gs19 W20 rfl (by omega) (by omega)
   have S21 : ∀ tz, oS p e below T20 (mkF m 120 #[iv (own_ng Mq4), iv (own_n ix), rv b0, xs4_0, xs4_1, iv ((own_n (((cq4 - 1) - 1) - 1))), iv 1] [(.int (own_n (((cq4 - 1) - 1) - 1)))]) tz → P0 tz := fun tz kz => S11 tz (by
    refine XS.icmpNo X10.here hx rfl (Y 22 rfl) rfl (XT.ii_ge_f hc88_12) ?_
    refine XS.aloadN X10.here hx rfl (Y 23 rfl) rfl rfl ?_
    refine XT.iincV X10.here hx rfl (-1 : Int32) (Y 24 rfl) (by decide) rfl (l' := #[iv (own_ng Mq4), iv (own_n ix), rv b0, xs4_0, xs4_1, iv (((own_n (cq4 - 1)) + (-1 : Int32))), iv 1]) rfl ?_
    show oS p e below T10 (mkF m 95 #[iv (own_ng Mq4), iv (own_n ix), rv b0, xs4_0, xs4_1, iv (((own_n (cq4 - 1)) + (-1 : Int32))), iv 1] [(.ref b0)]) _
    rw [own_ndec (k := (cq4 - 1)) (by omega) (by omega)]
    show oS p e below T10 (mkF m 95 #[iv (own_ng Mq4), iv (own_n ix), rv b0, xs4_0, xs4_1, iv ((own_n ((cq4 - 1) - 1))), iv 1] [(.ref b0)]) _
    refine XS.iload X10.here hx rfl (Y 25 rfl) rfl ?_
    refine st14 _ ?_
    refine XS.iloadN X14.here hx rfl (Y 27 rfl) rfl ?_
    refine XS.ineg X14.here hx rfl (Y 28 rfl) rfl ?_
    show oS p e below T14 (mkF m 102 #[iv (own_ng Mq4), iv (own_n ix), rv b0, xs4_0, xs4_1, iv ((own_n ((cq4 - 1) - 1))), iv 1] [(.int (-(own_ng Mq4))), (.ref dX), (.int (own_n ((cq4 - 1) - 1))), (.ref b0)]) _
    rw [own_ngneg (by omega)]
    show oS p e below T14 (mkF m 102 #[iv (own_ng Mq4), iv (own_n ix), rv b0, xs4_0, xs4_1, iv ((own_n ((cq4 - 1) - 1))), iv 1] [(.int (own_n Mq4)), (.ref dX), (.int (own_n ((cq4 - 1) - 1))), (.ref b0)]) _
    refine X14.baloadBytes hx (j := (own_n Mq4)) (v := (.int (own_d2 Mq4))) (by rw [e14]; exact Ar16.1) (State.isArrayOf_alike hZ.alike Ar16.2.1) Ar16.2.2 hin16 hat16 (g := (mkF m 102 #[iv (own_ng Mq4), iv (own_n ix), rv b0, xs4_0, xs4_1, iv ((own_n ((cq4 - 1) - 1))), iv 1] [(.int (own_n Mq4)), (.ref dX), (.int (own_n ((cq4 - 1) - 1))), (.ref b0)])) rfl rfl (Y 29 rfl) _ ?_
    refine st18 _ ?_
    refine XS.iload X18.here hx rfl (Y 31 rfl) rfl ?_
    refine XS.ifNo X18.here hx rfl (Y 32 rfl) rfl (XT.i0_eq_f (by decide)) ?_
    refine XS.aloadN X18.here hx rfl (Y 33 rfl) rfl rfl ?_
    show oS p e below T18 (mkF m 110 #[iv (own_ng Mq4), iv (own_n ix), rv b0, xs4_0, xs4_1, iv ((own_n ((cq4 - 1) - 1))), iv 1] [(.ref b0)]) _
    refine XT.iincV X18.here hx rfl (-1 : Int32) (Y 34 rfl) (by decide) rfl (l' := #[iv (own_ng Mq4), iv (own_n ix), rv b0, xs4_0, xs4_1, iv (((own_n ((cq4 - 1) - 1)) + (-1 : Int32))), iv 1]) rfl ?_
    show oS p e below T18 (mkF m 113 #[iv (own_ng Mq4), iv (own_n ix), rv b0, xs4_0, xs4_1, iv (((own_n ((cq4 - 1) - 1)) + (-1 : Int32))), iv 1] [(.ref b0)]) _
    rw [own_ndec (k := ((cq4 - 1) - 1)) (by omega) (by omega)]
    show oS p e below T18 (mkF m 113 #[iv (own_ng Mq4), iv (own_n ix), rv b0, xs4_0, xs4_1, iv ((own_n (((cq4 - 1) - 1) - 1))), iv 1] [(.ref b0)]) _
    refine XS.iload X18.here hx rfl (Y 35 rfl) rfl ?_
    refine XT.bipushV X18.here hx rfl (45 : Int32) (Y 36 rfl) (by decide) ?_
    refine st20 _ ?_
    refine XS.iload X20.here hx rfl (Y 38 rfl) rfl ?_
    exact kz)
   obtain ⟨fs, hr, hrun, hended, hW, hsame⟩ := X20.leave (v := some (.int (own_n (((cq4 - 1) - 1) - 1)))) (fun h => by rw [Bd.returns] at h; cases h)
   refine ⟨_, _, pre0 _ (S21 _ ?_), hrun, hended, _, _, rfl, ?_, ⟨_, rfl⟩, hW, hsame.mono (by decide) (by decide)⟩
   · exact retI X20 hx Bd.returns (Y 39 rfl) hr
   · show QrmGI Z y ix b0 cap g dO dX h0 n0 _ T20.heap _
     rw [e20]
     exact ⟨_, rfl, N20, K20, _, V20, own_gcN hz hN (by omega) (fun i => (own_wr2 gq4 h10 qa4 (by omega) i).trans (qe4 i)) (by omega) rfl⟩
  ·have h10 : Mq4 < 10 := Nat.lt_of_not_le (fun q => hc88_12 ((own_ng9 qa4).mpr q))
   have hdd : own_dg Mq4 = 1 := own_dg1 h10
   obtain ⟨kc22, cl22, Ar22, qk22, Sz22, Ng22, Hs22, Gs22⟩ := id V10
   have hin22 : ¬ ((own_n ((cq4 - 1) - 1)) < 0 ∨ cl22.slots.size ≤ ((own_n ((cq4 - 1) - 1))).toNatClampNeg) := own_inb (n := cap) (k := ((cq4 - 1) - 1)) Sz22 (by omega) (by omega)
   obtain ⟨T23, h23, X23, e23, W23, st23⟩ := stB X10 hx hZ e10 Ar22 (j := (own_n ((cq4 - 1) - 1))) hin22 (g := (mkF m 117 #[iv (own_ng Mq4), iv (own_n ix), rv b0, xs4_0, xs4_1, iv ((own_n ((cq4 - 1) - 1))), iv 1] [(.int 45), (.int (own_n ((cq4 - 1) - 1))), (.ref b0)])) rfl rfl (Y 37 rfl)
   have N23 := Fr.snoc X23 N10 hgb
   have Z23 : n0 ≤ h23.size := Nat.le_trans Z10 (Nat.le_of_eq W23.size.symm)
   have K23 : Keep h0 h23 [b0] := K10.wr W23 (Or.inl (List.mem_of_getElem? (i := 0) rfl))
   rw [show nar .byte (45 : Int32) = (45 : Int32) from rfl] at W23
   have V23 : own_Ab Z h23 b0 cap (own_up (own_up gq4 (cq4 - 1) (own_d1 Mq4)) ((cq4 - 1) - 1) (45 : Int32)) := own_arsetB (g := (own_up gq4 (cq4 - 1) (own_d1 Mq4))) (k := ((cq4 - 1) - 1)) Ar22 qk22 Sz22 Ng22 Hs22 Gs22 W23 rfl (by omega) (by omega)
   have S24 : ∀ tz, oS p e below T23 (mkF m 120 #[iv (own_ng Mq4), iv (own_n ix), rv b0, xs4_0, xs4_1, iv ((own_n ((cq4 - 1) - 1))), iv 1] [(.int (own_n ((cq4 - 1) - 1)))]) tz → P0 tz := fun tz kz => S11 tz (by
    refine XS.icmpYes X10.here hx rfl (pc0 := 88) (pc' := 104) rfl (Y 22 rfl) rfl (XT.ii_ge_t hc88_12) (by decide) (by decide) ?_
    refine XS.iload X10.here hx rfl (Y 31 rfl) rfl ?_
    refine XS.ifNo X10.here hx rfl (Y 32 rfl) rfl (XT.i0_eq_f (by decide)) ?_
    refine XS.aloadN X10.here hx rfl (Y 33 rfl) rfl rfl ?_
    show oS p e below T10 (mkF m 110 #[iv (own_ng Mq4), iv (own_n ix), rv b0, xs4_0, xs4_1, iv ((own_n (cq4 - 1))), iv 1] [(.ref b0)]) _
    refine XT.iincV X10.here hx rfl (-1 : Int32) (Y 34 rfl) (by decide) rfl (l' := #[iv (own_ng Mq4), iv (own_n ix), rv b0, xs4_0, xs4_1, iv (((own_n (cq4 - 1)) + (-1 : Int32))), iv 1]) rfl ?_
    show oS p e below T10 (mkF m 113 #[iv (own_ng Mq4), iv (own_n ix), rv b0, xs4_0, xs4_1, iv (((own_n (cq4 - 1)) + (-1 : Int32))), iv 1] [(.ref b0)]) _
    rw [own_ndec (k := (cq4 - 1)) (by omega) (by omega)]
    show oS p e below T10 (mkF m 113 #[iv (own_ng Mq4), iv (own_n ix), rv b0, xs4_0, xs4_1, iv ((own_n ((cq4 - 1) - 1))), iv 1] [(.ref b0)]) _
    refine XS.iload X10.here hx rfl (Y 35 rfl) rfl ?_
    refine XT.bipushV X10.here hx rfl (45 : Int32) (Y 36 rfl) (by decide) ?_
    refine st23 _ ?_
    refine XS.iload X23.here hx rfl (Y 38 rfl) rfl ?_
    exact kz)
   obtain ⟨fs, hr, hrun, hended, hW, hsame⟩ := X23.leave (v := some (.int (own_n ((cq4 - 1) - 1)))) (fun h => by rw [Bd.returns] at h; cases h)
   refine ⟨_, _, pre0 _ (S24 _ ?_), hrun, hended, _, _, rfl, ?_, ⟨_, rfl⟩, hW, hsame.mono (by decide) (by decide)⟩
   · exact retI X23 hx Bd.returns (Y 39 rfl) hr
   · show QrmGI Z y ix b0 cap g dO dX h0 n0 _ T23.heap _
     rw [e23]
     exact ⟨_, rfl, N23, K23, _, V23, own_gcN hz hN (by omega) (fun i => (own_wr1 gq4 h10 (by omega) i).trans (qe4 i)) (by omega) rfl⟩
 ·have hz : ¬ y.toInt < 0 := by have := own_gtF (k := y.toInt) (z := 0) hc4_2 rfl rfl; omega
  have hy0 : -y = own_ng N := by rw [hN]; exact own_ngof' hc4_2
  have hsz : own_sz y.toInt = own_dg N := by unfold own_sz; rw [if_neg hz, hN]; rfl
  have S25 : ∀ tz, oS p e below s₁ (mkF m 22 #[iv (own_ng N), iv (own_n ix), rv b0, .unset, .unset, iv (own_n ix), iv 0] []) tz → P0 tz := fun tz kz => S1 tz (by
   refine XS.ifYes X0.here hx rfl (pc0 := 4) (pc' := 11) rfl (Y 3 rfl) rfl (XT.i0_ge_t hc4_2) (by decide) (by decide) ?_
   refine XT.iconstV X0.here hx rfl (0 : Int32) (Y 40 rfl) (by decide) ?_
   refine XS.istore X0.here hx rfl (Y 6 rfl) rfl (l' := #[iv y, iv (own_n ix), rv b0, .unset, .unset, iv (own_n ix), iv 0]) rfl ?_
   refine XS.iload X0.here hx rfl (Y 7 rfl) rfl ?_
   refine XS.ifNo X0.here hx rfl (Y 8 rfl) rfl (XT.i0_ne_f (by decide)) ?_
   refine XS.iloadN X0.here hx rfl (Y 41 rfl) rfl ?_
   refine XS.ineg X0.here hx rfl (Y 42 rfl) rfl ?_
   show oS p e below s₁ (mkF m 21 #[iv y, iv (own_n ix), rv b0, .unset, .unset, iv (own_n ix), iv 0] [(.int (-y))]) _
   refine XS.istoreN X0.here hx rfl (Y 43 rfl) rfl (l' := #[iv (-y), iv (own_n ix), rv b0, .unset, .unset, iv (own_n ix), iv 0]) rfl ?_
   show oS p e below s₁ (mkF m 22 #[iv (-y), iv (own_n ix), rv b0, .unset, .unset, iv (own_n ix), iv 0] []) _
   rw [hy0]
   show oS p e below s₁ (mkF m 22 #[iv (own_ng N), iv (own_n ix), rv b0, .unset, .unset, iv (own_n ix), iv 0] []) _
   exact kz)
  obtain ⟨T26, h26, l26, Mq26, gq26, cq26, xs26_0, xs26_1, qa26, qb26, qc26, qd26, qe26, qf26, X26, e26, N26, K26, A26, st26⟩ := own_lI b0 cap ix (0 : Int32) dO dX hx hZ hw hby hml hown hnO hnX hgb hbd.2.2 N g ix .unset .unset s₁ _ _ (by omega) (by omega) (by omega) ⟨Or.inl rfl, Or.inl rfl⟩ X0 e0 N0 Z0 hB hSO hSX hAO hAX
  have hp26 := own_dgpos Mq26
  have Zk26 : n0 ≤ h26.size := Nat.le_trans Z0 K26.1
  have f27 := (own_stak hSO K26 (allS hB.ns all0))
  obtain ⟨T28, X28, e28, st28⟩ := getS2 X26 hx hZ hown (host := "") (Or.inl (oq hw 161 rfl)) Via.refl e26 f27 (g := (mkF m 78 #[iv (own_ng Mq26), iv (own_n ix), rv b0, xs26_0, xs26_1, iv ((own_n (cq26 - 1))), iv 0] [(.int (own_n (cq26 - 1))), (.ref b0)])) rfl (Y 15 rfl)
  have f29 := (hAO.keep K26 (ninS hnO nin0))
  obtain ⟨kc30, cl30, Ar30, qk30, Sz30, Ng30, Hs30, Gs30⟩ := id f29
  have hin30 : ¬ ((own_n Mq26) < 0 ∨ cl30.slots.size ≤ ((own_n Mq26)).toNatClampNeg) := own_inb (n := 100) (k := Mq26) Sz30 (by decide) (by omega)
  have hat30 : cl30.slots[((own_n Mq26)).toNatClampNeg]? = some (.int (own_d1 Mq26)) := own_at (n := 100) (k := Mq26) (g := own_d1) Hs30 Sz30 (by decide) (by omega) rfl
  obtain ⟨kc31, cl31, Ar31, qk31, Sz31, Ng31, Hs31, Gs31⟩ := id A26
  have hin31 : ¬ ((own_n (cq26 - 1)) < 0 ∨ cl31.slots.size ≤ ((own_n (cq26 - 1))).toNatClampNeg) := own_inb (n := cap) (k := (cq26 - 1)) Sz31 (by omega) (by omega)
  obtain ⟨T32, h32, X32, e32, W32, st32⟩ := stB X28 hx hZ e28 Ar31 (j := (own_n (cq26 - 1))) hin31 (g := (mkF m 84 #[iv (own_ng Mq26), iv (own_n ix), rv b0, xs26_0, xs26_1, iv ((own_n (cq26 - 1))), iv 0] [(.int (own_d1 Mq26)), (.int (own_n (cq26 - 1))), (.ref b0)])) rfl rfl (Y 19 rfl)
  have N32 := Fr.snoc X32 N26 hgb
  have Z32 : n0 ≤ h32.size := Nat.le_trans Zk26 (Nat.le_of_eq W32.size.symm)
  have K32 : Keep h0 h32 [b0] := K26.wr W32 (Or.inl (List.mem_of_getElem? (i := 0) rfl))
  rw [own_nd1] at W32
  have V32 : own_Ab Z h32 b0 cap (own_up gq26 (cq26 - 1) (own_d1 Mq26)) := own_arsetB (g := gq26) (k := (cq26 - 1)) Ar31 qk31 Sz31 Ng31 Hs31 Gs31 W32 (own_fd1 _) (by omega) (by omega)
  have S33 : ∀ tz, oS p e below T32 (mkF m 88 #[iv (own_ng Mq26), iv (own_n ix), rv b0, xs26_0, xs26_1, iv ((own_n (cq26 - 1))), iv 0] [(.int (-9)), (.int (own_ng Mq26))]) tz → P0 tz := fun tz kz => S25 tz (by
   refine st26 _ ?_
   show oS p e below T26 (mkF m 22 #[iv (own_ng Mq26), iv (own_n ix), rv b0, xs26_0, xs26_1, iv (own_n cq26), iv 0] []) _
   refine XS.iloadN X26.here hx rfl (Y 9 rfl) rfl ?_
   refine XT.bipushV X26.here hx rfl (-100 : Int32) (Y 10 rfl) (by decide) ?_
   refine XS.icmpYes X26.here hx rfl (pc0 := 25) (pc' := 72) rfl (Y 11 rfl) rfl (XT.ii_gt_t (own_nglt qa26)) (by decide) (by decide) ?_
   refine XS.aloadN X26.here hx rfl (Y 12 rfl) rfl rfl ?_
   refine XT.iincV X26.here hx rfl (-1 : Int32) (Y 13 rfl) (by decide) rfl (l' := #[iv (own_ng Mq26), iv (own_n ix), rv b0, xs26_0, xs26_1, iv (((own_n cq26) + (-1 : Int32))), iv 0]) rfl ?_
   show oS p e below T26 (mkF m 76 #[iv (own_ng Mq26), iv (own_n ix), rv b0, xs26_0, xs26_1, iv (((own_n cq26) + (-1 : Int32))), iv 0] [(.ref b0)]) _
   rw [own_ndec (k := cq26) (by omega) (by omega)]
   show oS p e below T26 (mkF m 76 #[iv (own_ng Mq26), iv (own_n ix), rv b0, xs26_0, xs26_1, iv ((own_n (cq26 - 1))), iv 0] [(.ref b0)]) _
   refine XS.iload X26.here hx rfl (Y 14 rfl) rfl ?_
   show oS p e below T26 (mkF m 78 #[iv (own_ng Mq26), iv (own_n ix), rv b0, xs26_0, xs26_1, iv ((own_n (cq26 - 1))), iv 0] [(.int (own_n (cq26 - 1))), (.ref b0)]) _
   refine st28 _ ?_
   refine XS.iloadN X28.here hx rfl (Y 16 rfl) rfl ?_
   refine XS.ineg X28.here hx rfl (Y 17 rfl) rfl ?_
   show oS p e below T28 (mkF m 83 #[iv (own_ng Mq26), iv (own_n ix), rv b0, xs26_0, xs26_1, iv ((own_n (cq26 - 1))), iv 0] [(.int (-(own_ng Mq26))), (.ref dO), (.int (own_n (cq26 - 1))), (.ref b0)]) _
   rw [own_ngneg (by omega)]
   show oS p e below T28 (mkF m 83 #[iv (own_ng Mq26), iv (own_n ix), rv b0, xs26_0, xs26_1, iv ((own_n (cq26 - 1))), iv 0] [(.int (own_n Mq26)), (.ref dO), (.int (own_n (cq26 - 1))), (.ref b0)]) _
   refine X28.baloadBytes hx (j := (own_n Mq26)) (v := (.int (own_d1 Mq26))) (by rw [e28]; exact Ar30.1) (State.isArrayOf_alike hZ.alike Ar30.2.1) Ar30.2.2 hin30 hat30 (g := (mkF m 83 #[iv (own_ng Mq26), iv (own_n ix), rv b0, xs26_0, xs26_1, iv ((own_n (cq26 - 1))), iv 0] [(.int (own_n Mq26)), (.ref dO), (.int (own_n (cq26 - 1))), (.ref b0)])) rfl rfl (Y 18 rfl) _ ?_
   refine st32 _ ?_
   refine XS.iloadN X32.here hx rfl (Y 20 rfl) rfl ?_
   refine XT.bipushV X32.here hx rfl (-9 : Int32) (Y 21 rfl) (by decide) ?_
   exact kz)
  by_cases hc88_34 : (own_ng Mq26) < (-9 : Int32)
  ·have h10 := (own_ng9 qa26).mp hc88_34
   have hdd : own_dg Mq26 = 2 := by rw [own_dgS h10, own_dg1 (by omega)]
   have f35 := ((own_stak hSX K26 (allS hB.ns all0)).wr W32)
   obtain ⟨T36, X36, e36, st36⟩ := getS2 X32 hx hZ hown (host := "") (Or.inl (oq hw 284 rfl)) Via.refl e32 f35 (g := (mkF m 97 #[iv (own_ng Mq26), iv (own_n ix), rv b0, xs26_0, xs26_1, iv ((own_n ((cq26 - 1) - 1))), iv 0] [(.int (own_n ((cq26 - 1) - 1))), (.ref b0)])) rfl (Y 26 rfl)
   have f37 := ((hAX.keep K26 (ninS hnX nin0)).other W32 hnX)
   obtain ⟨kc38, cl38, Ar38, qk38, Sz38, Ng38, Hs38, Gs38⟩ := id f37
   have hin38 : ¬ ((own_n Mq26) < 0 ∨ cl38.slots.size ≤ ((own_n Mq26)).toNatClampNeg) := own_inb (n := 100) (k := Mq26) Sz38 (by decide) (by omega)
   have hat38 : cl38.slots[((own_n Mq26)).toNatClampNeg]? = some (.int (own_d2 Mq26)) := own_at (n := 100) (k := Mq26) (g := own_d2) Hs38 Sz38 (by decide) (by omega) rfl
   obtain ⟨kc39, cl39, Ar39, qk39, Sz39, Ng39, Hs39, Gs39⟩ := id V32
   have hin39 : ¬ ((own_n ((cq26 - 1) - 1)) < 0 ∨ cl39.slots.size ≤ ((own_n ((cq26 - 1) - 1))).toNatClampNeg) := own_inb (n := cap) (k := ((cq26 - 1) - 1)) Sz39 (by omega) (by omega)
   obtain ⟨T40, h40, X40, e40, W40, st40⟩ := stB X36 hx hZ e36 Ar39 (j := (own_n ((cq26 - 1) - 1))) hin39 (g := (mkF m 103 #[iv (own_ng Mq26), iv (own_n ix), rv b0, xs26_0, xs26_1, iv ((own_n ((cq26 - 1) - 1))), iv 0] [(.int (own_d2 Mq26)), (.int (own_n ((cq26 - 1) - 1))), (.ref b0)])) rfl rfl (Y 30 rfl)
   have N40 := Fr.snoc X40 N32 hgb
   have Z40 : n0 ≤ h40.size := Nat.le_trans Z32 (Nat.le_of_eq W40.size.symm)
   have K40 : Keep h0 h40 [b0] := K32.wr W40 (Or.inl (List.mem_of_getElem? (i := 0) rfl))
   rw [own_nd2 (by omega)] at W40
   have V40 : own_Ab Z h40 b0 cap (own_up (own_up gq26 (cq26 - 1) (own_d1 Mq26)) ((cq26 - 1) - 1) (own_d2 Mq26)) := own_arsetB (g := (own_up gq26 (cq26 - 1) (own_d1 Mq26))) (k := ((cq26 - 1) - 1)) Ar39 qk39 Sz39 Ng39 Hs39 Gs39 W40 (own_fd2 (by omega)) (by omega) (by omega)
   have S41 : ∀ tz, oS p e below T40 (mkF m 120 #[iv (own_ng Mq26), iv (own_n ix), rv b0, xs26_0, xs26_1, iv ((own_n ((cq26 - 1) - 1))), iv 0] [(.int (own_n ((cq26 - 1) - 1)))]) tz → P0 tz := fun tz kz => S33 tz (by
    refine XS.icmpNo X32.here hx rfl (Y 22 rfl) rfl (XT.ii_ge_f hc88_34) ?_
    refine XS.aloadN X32.here hx rfl (Y 23 rfl) rfl rfl ?_
    show oS p e below T32 (mkF m 92 #[iv (own_ng Mq26), iv (own_n ix), rv b0, xs26_0, xs26_1, iv ((own_n (cq26 - 1))), iv 0] [(.ref b0)]) _
    refine XT.iincV X32.here hx rfl (-1 : Int32) (Y 24 rfl) (by decide) rfl (l' := #[iv (own_ng Mq26), iv (own_n ix), rv b0, xs26_0, xs26_1, iv (((own_n (cq26 - 1)) + (-1 : Int32))), iv 0]) rfl ?_
    show oS p e below T32 (mkF m 95 #[iv (own_ng Mq26), iv (own_n ix), rv b0, xs26_0, xs26_1, iv (((own_n (cq26 - 1)) + (-1 : Int32))), iv 0] [(.ref b0)]) _
    rw [own_ndec (k := (cq26 - 1)) (by omega) (by omega)]
    show oS p e below T32 (mkF m 95 #[iv (own_ng Mq26), iv (own_n ix), rv b0, xs26_0, xs26_1, iv ((own_n ((cq26 - 1) - 1))), iv 0] [(.ref b0)]) _
    refine XS.iload X32.here hx rfl (Y 25 rfl) rfl ?_
    refine st36 _ ?_
    refine XS.iloadN X36.here hx rfl (Y 27 rfl) rfl ?_
    refine XS.ineg X36.here hx rfl (Y 28 rfl) rfl ?_
    show oS p e below T36 (mkF m 102 #[iv (own_ng Mq26), iv (own_n ix), rv b0, xs26_0, xs26_1, iv ((own_n ((cq26 - 1) - 1))), iv 0] [(.int (-(own_ng Mq26))), (.ref dX), (.int (own_n ((cq26 - 1) - 1))), (.ref b0)]) _
    rw [own_ngneg (by omega)]
    show oS p e below T36 (mkF m 102 #[iv (own_ng Mq26), iv (own_n ix), rv b0, xs26_0, xs26_1, iv ((own_n ((cq26 - 1) - 1))), iv 0] [(.int (own_n Mq26)), (.ref dX), (.int (own_n ((cq26 - 1) - 1))), (.ref b0)]) _
    refine X36.baloadBytes hx (j := (own_n Mq26)) (v := (.int (own_d2 Mq26))) (by rw [e36]; exact Ar38.1) (State.isArrayOf_alike hZ.alike Ar38.2.1) Ar38.2.2 hin38 hat38 (g := (mkF m 102 #[iv (own_ng Mq26), iv (own_n ix), rv b0, xs26_0, xs26_1, iv ((own_n ((cq26 - 1) - 1))), iv 0] [(.int (own_n Mq26)), (.ref dX), (.int (own_n ((cq26 - 1) - 1))), (.ref b0)])) rfl rfl (Y 29 rfl) _ ?_
    refine st40 _ ?_
    refine XS.iload X40.here hx rfl (Y 31 rfl) rfl ?_
    show oS p e below T40 (mkF m 106 #[iv (own_ng Mq26), iv (own_n ix), rv b0, xs26_0, xs26_1, iv ((own_n ((cq26 - 1) - 1))), iv 0] [(.int 0)]) _
    refine XS.ifYes X40.here hx rfl (pc0 := 106) (pc' := 118) rfl (Y 32 rfl) rfl (XT.i0_eq_t (by decide)) (by decide) (by decide) ?_
    refine XS.iload X40.here hx rfl (Y 38 rfl) rfl ?_
    exact kz)
   obtain ⟨fs, hr, hrun, hended, hW, hsame⟩ := X40.leave (v := some (.int (own_n ((cq26 - 1) - 1)))) (fun h => by rw [Bd.returns] at h; cases h)
   refine ⟨_, _, pre0 _ (S41 _ ?_), hrun, hended, _, _, rfl, ?_, ⟨_, rfl⟩, hW, hsame.mono (by decide) (by decide)⟩
   · exact retI X40 hx Bd.returns (Y 39 rfl) hr
   · show QrmGI Z y ix b0 cap g dO dX h0 n0 _ T40.heap _
     rw [e40]
     exact ⟨_, rfl, N40, K40, _, V40, own_gcP hz hN (by omega) (fun i => (own_wr2 gq26 h10 qa26 (by omega) i).trans (qe26 i))⟩
  ·have h10 : Mq26 < 10 := Nat.lt_of_not_le (fun q => hc88_34 ((own_ng9 qa26).mpr q))
   have hdd : own_dg Mq26 = 1 := own_dg1 h10
   have S42 : ∀ tz, oS p e below T32 (mkF m 120 #[iv (own_ng Mq26), iv (own_n ix), rv b0, xs26_0, xs26_1, iv ((own_n (cq26 - 1))), iv 0] [(.int (own_n (cq26 - 1)))]) tz → P0 tz := fun tz kz => S33 tz (by
    refine XS.icmpYes X32.here hx rfl (pc0 := 88) (pc' := 104) rfl (Y 22 rfl) rfl (XT.ii_ge_t hc88_34) (by decide) (by decide) ?_
    refine XS.iload X32.here hx rfl (Y 31 rfl) rfl ?_
    show oS p e below T32 (mkF m 106 #[iv (own_ng Mq26), iv (own_n ix), rv b0, xs26_0, xs26_1, iv ((own_n (cq26 - 1))), iv 0] [(.int 0)]) _
    refine XS.ifYes X32.here hx rfl (pc0 := 106) (pc' := 118) rfl (Y 32 rfl) rfl (XT.i0_eq_t (by decide)) (by decide) (by decide) ?_
    refine XS.iload X32.here hx rfl (Y 38 rfl) rfl ?_
    exact kz)
   obtain ⟨fs, hr, hrun, hended, hW, hsame⟩ := X32.leave (v := some (.int (own_n (cq26 - 1)))) (fun h => by rw [Bd.returns] at h; cases h)
   refine ⟨_, _, pre0 _ (S42 _ ?_), hrun, hended, _, _, rfl, ?_, ⟨_, rfl⟩, hW, hsame.mono (by decide) (by decide)⟩
   · exact retI X32 hx Bd.returns (Y 39 rfl) hr
   · show QrmGI Z y ix b0 cap g dO dX h0 n0 _ T32.heap _
     rw [e32]
     exact ⟨_, rfl, N32, K32, _, V32, own_gcP hz hN (by omega) (fun i => (own_wr1 gq26 h10 (by omega) i).trans (qe26 i))⟩
theorem D_rmGL : oL jdk_35_method_14_code [(0, .iload_n 2, 1), (1, .istore 7, 2), (3, .lload_n 0, 1), (4, .lconst 0, 1), (5, .lcmp, 1), (6, .ifCond .ge 7, 3), (9, .iconst 1, 1), (10, .goto 4, 3), (14, .istore 8, 2), (16, .iload 8, 2), (18, .ifCond .ne 6, 3), (24, .lload_n 0, 1), (25, .ldc2_w 129, 3), (28, .lcmp, 1), (29, .ifCond .gt 53, 3), (82, .lload_n 0, 1), (83, .l2i, 1), (84, .istore 10, 2), (86, .iload 10, 2), (88, .bipush (-100), 2), (90, .if_icmp .gt 53, 3), (143, .aload_n 3, 1), (144, .iinc 7 (-1), 3), (147, .iload 7, 2), (149, .getstatic 133, 3), (152, .iload 10, 2), (154, .ineg, 1), (155, .baload, 1), (156, .bastore, 1), (157, .iload 10, 2), (159, .bipush (-9), 2), (161, .if_icmp .ge 17, 3), (164, .aload_n 3, 1), (165, .iinc 7 (-1), 3), (168, .iload 7, 2), (170, .getstatic 137, 3), (173, .iload 10, 2), (175, .ineg, 1), (176, .baload, 1), (177, .bastore, 1), (178, .iload 8, 2), (180, .ifCond .eq 12, 3), (183, .aload_n 3, 1), (184, .iinc 7 (-1), 3), (187, .iload 7, 2), (189, .bipush 45, 2), (191, .bastore, 1), (192, .iload 7, 2), (194, .ireturn, 1), (13, .iconst 0, 1), (21, .lload_n 0, 1), (22, .lneg, 1), (23, .lstore_n 0, 1)] := by decide +kernel
def QrmGL (Z : State) (y : Int64) (ix : Nat) (b0 : Addr) (cap : Nat) (g : Nat → Int32) (dO : Addr) (dX : Addr) (h0 : Heap) (n0 : Nat) (v : Option Value) (h : Heap) (L : List Loc) : Prop := ∃ zr : Int32, v = some (.int zr) ∧ Fr n0 L ∧ Keep h0 h [b0] ∧ ∃ gn : Nat → Int32, own_Ab Z h b0 cap gn ∧ (∀ i, i < ix - own_sz y.toInt → gn i = g i) ∧ (∀ i, i < own_sz y.toInt → gn (ix - own_sz y.toInt + i) = own_num y.toInt i)
theorem rmGL (l : Launch) (Z : State) (av0 : Array Value) (hw : ∀ d ∈ tables_1, d.before av0 Z = true) (ws : List Jvm.Cond) (y : Int64) (ix : Nat) (b0 : Addr) (cap : Nat) (g : Nat → Int32) (dO : Addr) (dX : Addr) (h0 : Heap) (n0 : Nat) (Z0 : n0 ≤ h0.size) (hB : own_Ab Z h0 b0 cap g) (hSO : Sta Z h0 "java/lang/Integer" "DigitOnes" "[B" (.ref dO)) (hSX : Sta Z h0 "java/lang/Integer" "DigitTens" "[B" (.ref dX)) (hAO : own_Ab Z h0 dO 100 own_d1) (hAX : own_Ab Z h0 dX 100 own_d2) (hnO : dO ≠ b0) (hnX : dX ≠ b0) (hgb : n0 ≤ b0) (hbd : own_sz y.toInt ≤ ix ∧ ix ≤ cap ∧ cap < 1000) :
   own_Met l mN28 jdk_35_method_14_code 11 (some .int) ws ({ frames := 0, cells := 0, slots := 0, locals := 0 } : Room) #[(.long y), (.int (own_n ix)), (.ref b0)] Z h0 (QrmGL Z y ix b0 cap g dO dX h0 n0) := by
 refine MetFree.of_bodySF (plainFor_of_name pn_Long) hisR ?_
 intro p e s m args below meth c s₁ Bd hml0 hP hK
 obtain ⟨rfl, hZ, hh⟩ := hP
 have hml : c.maxLocals = 11 := hml0
 obtain ⟨hx, hby, hown, hnm, X0, e0⟩ := own_start Bd hml0 hh
 have N0 := Fr.nil n0
 have Y := @oY _ _ _ hby D_rmGL
 obtain ⟨P0, in0, pre0⟩ : ∃ P : State → Prop, (∀ tz, oS p e below s₁ (mkF m 0 #[.val (.long y), .second, iv (own_n ix), rv b0, .unset, .unset, .unset, .unset, .unset, .unset, .unset] []) tz → P tz) ∧ ∀ tz, P tz → Steps p.tables e below (s₁.setTop (entryFrame m #[(.long y), (.int (own_n ix)), (.ref b0)] 11)) tz := ⟨_, fun _ kz => kz, fun tz kz => castTop (by first | (simp [entryFrame, mkF, argsToLocals, Value.category]; done) | rfl) kz⟩
 obtain ⟨N, hN⟩ : ∃ N, N = y.toInt.natAbs := ⟨_, rfl⟩
 have hrg := rng64 y
 have hpN := own_dgpos N
 have S1 : ∀ tz, oS p e below s₁ (mkF m 6 #[.val (.long y), .second, iv (own_n ix), rv b0, .unset, .unset, .unset, iv (own_n ix), .unset, .unset, .unset] [(.int (XT.cmpL y (0 : Int64)))]) tz → P0 tz := fun tz kz => in0 tz (by
  refine XS.iloadN X0.here hx rfl (Y 0 rfl) rfl ?_
  refine XS.istore X0.here hx rfl (Y 1 rfl) rfl (l' := #[.val (.long y), .second, iv (own_n ix), rv b0, .unset, .unset, .unset, iv (own_n ix), .unset, .unset, .unset]) rfl ?_
  refine XT.lloadN X0.here hx rfl (Y 2 rfl) rfl ?_
  refine XT.lconstV X0.here hx rfl (0 : Int64) (Y 3 rfl) (by decide) ?_
  refine XT.lcmp X0.here hx rfl (Y 4 rfl) rfl ?_
  exact kz)
 by_cases hc6_2 : y < (0 : Int64)
 ·have hz : y.toInt < 0 := own_gtTL (k := y.toInt) (z := 0) hc6_2 rfl rfl
  have hy0 : y = own_ngL N := by rw [hN]; exact own_ngofL hc6_2
  have hsz : own_sz y.toInt = own_dg N + 1 := by unfold own_sz; rw [if_pos hz, hN]
  have S3 : ∀ tz, oS p e below s₁ (mkF m 24 #[.val (.long (own_ngL N)), .second, iv (own_n ix), rv b0, .unset, .unset, .unset, iv (own_n ix), iv 1, .unset, .unset] []) tz → P0 tz := fun tz kz => S1 tz (by
   refine XS.ifNo X0.here hx rfl (Y 5 rfl) rfl (XT.ll_ge_f hc6_2) ?_
   refine XT.iconstV X0.here hx rfl (1 : Int32) (Y 6 rfl) (by decide) ?_
   refine XS.goto X0.here hx rfl (pc0 := 10) (pc' := 14) rfl (Y 7 rfl) (by decide) (by decide) ?_
   refine XS.istore X0.here hx rfl (Y 8 rfl) rfl (l' := #[.val (.long y), .second, iv (own_n ix), rv b0, .unset, .unset, .unset, iv (own_n ix), iv 1, .unset, .unset]) rfl ?_
   refine XS.iload X0.here hx rfl (Y 9 rfl) rfl ?_
   show oS p e below s₁ (mkF m 18 #[.val (.long y), .second, iv (own_n ix), rv b0, .unset, .unset, .unset, iv (own_n ix), iv 1, .unset, .unset] [(.int 1)]) _
   refine XS.ifYes X0.here hx rfl (pc0 := 18) (pc' := 24) rfl (Y 10 rfl) rfl (XT.i0_ne_t (by decide)) (by decide) (by decide) ?_
   show oS p e below s₁ (mkF m 24 #[.val (.long y), .second, iv (own_n ix), rv b0, .unset, .unset, .unset, iv (own_n ix), iv 1, .unset, .unset] []) _
   rw [hy0]
   show oS p e below s₁ (mkF m 24 #[.val (.long (own_ngL N)), .second, iv (own_n ix), rv b0, .unset, .unset, .unset, iv (own_n ix), iv 1, .unset, .unset] []) _
   exact kz)
  obtain ⟨T4, h4, l4, Mq4, gq4, cq4, xs4_0, xs4_1, xs4_2, qa4, qb4, qc4, qd4, qe4, qf4, X4, e4, N4, K4, A4, st4⟩ := own_lL b0 cap ix (1 : Int32) dO dX hx hZ hw hby hml hown hnO hnX hgb hbd.2.2 N g ix .unset .unset .unset s₁ _ _ (by omega) (by omega) (by omega) ⟨Or.inl ⟨rfl, rfl⟩, Or.inl rfl⟩ X0 e0 N0 Z0 hB hSO hSX hAO hAX
  have hp4 := own_dgpos Mq4
  have Zk4 : n0 ≤ h4.size := Nat.le_trans Z0 K4.1
  have S5 : ∀ tz, oS p e below T4 (mkF m 86 #[.val (.long (own_ngL Mq4)), .second, iv (own_n ix), rv b0, xs4_0, xs4_1, xs4_2, iv (own_n cq4), iv 1, .unset, iv (own_ng Mq4)] []) tz → P0 tz := fun tz kz => S3 tz (by
   refine st4 _ ?_
   show oS p e below T4 (mkF m 24 #[.val (.long (own_ngL Mq4)), .second, iv (own_n ix), rv b0, xs4_0, xs4_1, xs4_2, iv (own_n cq4), iv 1, .unset, .unset] []) _
   refine XT.lloadN X4.here hx rfl (Y 11 rfl) rfl ?_
   refine X4.ldc2J hx hown (mvT hZ (oq hw 180 rfl)) rfl (Y 12 rfl) ?_
   refine XT.lcmp X4.here hx rfl (Y 13 rfl) rfl ?_
   refine XS.ifYes X4.here hx rfl (pc0 := 29) (pc' := 82) rfl (Y 14 rfl) rfl (XT.ll_gt_t (own_ngLlt qa4)) (by decide) (by decide) ?_
   refine XT.lloadN X4.here hx rfl (Y 15 rfl) rfl ?_
   refine XT.l2i X4.here hx rfl (Y 16 rfl) rfl ?_
   show oS p e below T4 (mkF m 84 #[.val (.long (own_ngL Mq4)), .second, iv (own_n ix), rv b0, xs4_0, xs4_1, xs4_2, iv (own_n cq4), iv 1, .unset, .unset] [(.int ((own_ngL Mq4)).toInt32)]) _
   rw [own_ngcast qa4]
   show oS p e below T4 (mkF m 84 #[.val (.long (own_ngL Mq4)), .second, iv (own_n ix), rv b0, xs4_0, xs4_1, xs4_2, iv (own_n cq4), iv 1, .unset, .unset] [(.int (own_ng Mq4))]) _
   refine XS.istore X4.here hx rfl (Y 17 rfl) rfl (l' := #[.val (.long (own_ngL Mq4)), .second, iv (own_n ix), rv b0, xs4_0, xs4_1, xs4_2, iv (own_n cq4), iv 1, .unset, iv (own_ng Mq4)]) rfl ?_
   exact kz)
  have f7 := (own_stak hSO K4 (allS hB.ns all0))
  have f8 := (own_stak hSX K4 (allS hB.ns all0))
  have f9 := (hAO.keep K4 (ninS hnO nin0))
  have f10 := (hAX.keep K4 (ninS hnX nin0))
  obtain ⟨T6, h6, l6, Mq6, gq6, cq6, xs6_0, xs6_1, qa6, qb6, qc6, qd6, qe6, qf6, X6, e6, N6, K6, A6, st6⟩ := own_lK b0 cap ix (1 : Int32) dO dX (own_ngL Mq4) xs4_0 xs4_1 hx hZ hw hby hml hown hnO hnX hgb hbd.2.2 Mq4 gq4 cq4 xs4_2 .unset T4 _ _ (by omega) (by omega) (by omega) ⟨qf4.2, Or.inl rfl⟩ X4 e4 N4 Zk4 A4 f7 f8 f9 f10
  have hp6 := own_dgpos Mq6
  have Zk6 : n0 ≤ h6.size := Nat.le_trans Zk4 K6.1
  have Kk6 : Keep h0 h6 [b0] := K4.trans K6 (fun x hx => Or.inl hx)
  have f11 := (own_stak f7 K6 (allS A4.ns all0))
  obtain ⟨T12, X12, e12, st12⟩ := getS2 X6 hx hZ hown (host := "") (Or.inl (oq hw 181 rfl)) Via.refl e6 f11 (g := (mkF m 149 #[.val (.long (own_ngL Mq4)), .second, iv (own_n ix), rv b0, xs4_0, xs4_1, xs6_0, iv ((own_n (cq6 - 1))), iv 1, xs6_1, iv (own_ng Mq6)] [(.int (own_n (cq6 - 1))), (.ref b0)])) rfl (Y 24 rfl)
  have f13 := (f9.keep K6 (ninS hnO nin0))
  obtain ⟨kc14, cl14, Ar14, qk14, Sz14, Ng14, Hs14, Gs14⟩ := id f13
  have hin14 : ¬ ((own_n Mq6) < 0 ∨ cl14.slots.size ≤ ((own_n Mq6)).toNatClampNeg) := own_inb (n := 100) (k := Mq6) Sz14 (by decide) (by omega)
  have hat14 : cl14.slots[((own_n Mq6)).toNatClampNeg]? = some (.int (own_d1 Mq6)) := own_at (n := 100) (k := Mq6) (g := own_d1) Hs14 Sz14 (by decide) (by omega) rfl
  obtain ⟨kc15, cl15, Ar15, qk15, Sz15, Ng15, Hs15, Gs15⟩ := id A6
  have hin15 : ¬ ((own_n (cq6 - 1)) < 0 ∨ cl15.slots.size ≤ ((own_n (cq6 - 1))).toNatClampNeg) := own_inb (n := cap) (k := (cq6 - 1)) Sz15 (by omega) (by omega)
  obtain ⟨T16, h16, X16, e16, W16, st16⟩ := stB X12 hx hZ e12 Ar15 (j := (own_n (cq6 - 1))) hin15 (g := (mkF m 156 #[.val (.long (own_ngL Mq4)), .second, iv (own_n ix), rv b0, xs4_0, xs4_1, xs6_0, iv ((own_n (cq6 - 1))), iv 1, xs6_1, iv (own_ng Mq6)] [(.int (own_d1 Mq6)), (.int (own_n (cq6 - 1))), (.ref b0)])) rfl rfl (Y 28 rfl)
  have N16 := Fr.snoc X16 N6 hgb
  have Z16 : n0 ≤ h16.size := Nat.le_trans Zk6 (Nat.le_of_eq W16.size.symm)
  have K16 : Keep h0 h16 [b0] := Kk6.wr W16 (Or.inl (List.mem_of_getElem? (i := 0) rfl))
  rw [own_nd1] at W16
  have V16 : own_Ab Z h16 b0 cap (own_up gq6 (cq6 - 1) (own_d1 Mq6)) := own_arsetB (g := gq6) (k := (cq6 - 1)) Ar15 qk15 Sz15 Ng15 Hs15 Gs15 W16 (own_fd1 _) (by omega) (by omega)
  have S17 : ∀ tz, oS p e below T16 (mkF m 161 #[.val (.long (own_ngL Mq4)), .second, iv (own_n ix), rv b0, xs4_0, xs4_1, xs6_0, iv ((own_n (cq6 - 1))), iv 1, xs6_1, iv (own_ng Mq6)] [(.int (-9)), (.int (own_ng Mq6))]) tz → P0 tz := fun tz kz => S5 tz (by
   refine st6 _ ?_
   show oS p e below T6 (mkF m 86 #[.val (.long (own_ngL Mq4)), .second, iv (own_n ix), rv b0, xs4_0, xs4_1, xs6_0, iv (own_n cq6), iv 1, xs6_1, iv (own_ng Mq6)] []) _
   refine XS.iload X6.here hx rfl (Y 18 rfl) rfl ?_
   refine XT.bipushV X6.here hx rfl (-100 : Int32) (Y 19 rfl) (by decide) ?_
   refine XS.icmpYes X6.here hx rfl (pc0 := 90) (pc' := 143) rfl (Y 20 rfl) rfl (XT.ii_gt_t (own_nglt qa6)) (by decide) (by decide) ?_
   refine XS.aloadN X6.here hx rfl (Y 21 rfl) rfl rfl ?_
   refine XT.iincV X6.here hx rfl (-1 : Int32) (Y 22 rfl) (by decide) rfl (l' := #[.val (.long (own_ngL Mq4)), .second, iv (own_n ix), rv b0, xs4_0, xs4_1, xs6_0, iv (((own_n cq6) + (-1 : Int32))), iv 1, xs6_1, iv (own_ng Mq6)]) rfl ?_
   show oS p e below T6 (mkF m 147 #[.val (.long (own_ngL Mq4)), .second, iv (own_n ix), rv b0, xs4_0, xs4_1, xs6_0, iv (((own_n cq6) + (-1 : Int32))), iv 1, xs6_1, iv (own_ng Mq6)] [(.ref b0)]) _
   rw [own_ndec (k := cq6) (by omega) (by omega)]
   show oS p e below T6 (mkF m 147 #[.val (.long (own_ngL Mq4)), .second, iv (own_n ix), rv b0, xs4_0, xs4_1, xs6_0, iv ((own_n (cq6 - 1))), iv 1, xs6_1, iv (own_ng Mq6)] [(.ref b0)]) _
   refine XS.iload X6.here hx rfl (Y 23 rfl) rfl ?_
   refine st12 _ ?_
   show oS p e below T12 (mkF m 152 #[.val (.long (own_ngL Mq4)), .second, iv (own_n ix), rv b0, xs4_0, xs4_1, xs6_0, iv ((own_n (cq6 - 1))), iv 1, xs6_1, iv (own_ng Mq6)] [(.ref dO), (.int (own_n (cq6 - 1))), (.ref b0)]) _
   refine XS.iload X12.here hx rfl (Y 25 rfl) rfl ?_
   refine XS.ineg X12.here hx rfl (Y 26 rfl) rfl ?_
   show oS p e below T12 (mkF m 155 #[.val (.long (own_ngL Mq4)), .second, iv (own_n ix), rv b0, xs4_0, xs4_1, xs6_0, iv ((own_n (cq6 - 1))), iv 1, xs6_1, iv (own_ng Mq6)] [(.int (-(own_ng Mq6))), (.ref dO), (.int (own_n (cq6 - 1))), (.ref b0)]) _
   rw [own_ngneg (by omega)]
   show oS p e below T12 (mkF m 155 #[.val (.long (own_ngL Mq4)), .second, iv (own_n ix), rv b0, xs4_0, xs4_1, xs6_0, iv ((own_n (cq6 - 1))), iv 1, xs6_1, iv (own_ng Mq6)] [(.int (own_n Mq6)), (.ref dO), (.int (own_n (cq6 - 1))), (.ref b0)]) _
   refine X12.baloadBytes hx (j := (own_n Mq6)) (v := (.int (own_d1 Mq6))) (by rw [e12]; exact Ar14.1) (State.isArrayOf_alike hZ.alike Ar14.2.1) Ar14.2.2 hin14 hat14 (g := (mkF m 155 #[.val (.long (own_ngL Mq4)), .second, iv (own_n ix), rv b0, xs4_0, xs4_1, xs6_0, iv ((own_n (cq6 - 1))), iv 1, xs6_1, iv (own_ng Mq6)] [(.int (own_n Mq6)), (.ref dO), (.int (own_n (cq6 - 1))), (.ref b0)])) rfl rfl (Y 27 rfl) _ ?_
   refine st16 _ ?_
   refine XS.iload X16.here hx rfl (Y 29 rfl) rfl ?_
   refine XT.bipushV X16.here hx rfl (-9 : Int32) (Y 30 rfl) (by decide) ?_
   exact kz)
  by_cases hc161_18 : (own_ng Mq6) < (-9 : Int32)
  ·have h10 := (own_ng9 qa6).mp hc161_18
   have hdd : own_dg Mq6 = 2 := by rw [own_dgS h10, own_dg1 (by omega)]
   have f19 := ((own_stak f8 K6 (allS A4.ns all0)).wr W16)
   obtain ⟨T20, X20, e20, st20⟩ := getS2 X16 hx hZ hown (host := "") (Or.inl (oq hw 283 rfl)) Via.refl e16 f19 (g := (mkF m 170 #[.val (.long (own_ngL Mq4)), .second, iv (own_n ix), rv b0, xs4_0, xs4_1, xs6_0, iv ((own_n ((cq6 - 1) - 1))), iv 1, xs6_1, iv (own_ng Mq6)] [(.int (own_n ((cq6 - 1) - 1))), (.ref b0)])) rfl (Y 35 rfl)
   have f21 := ((f10.keep K6 (ninS hnX nin0)).other W16 hnX)
   obtain ⟨kc22, cl22, Ar22, qk22, Sz22, Ng22, Hs22, Gs22⟩ := id f21
   have hin22 : ¬ ((own_n Mq6) < 0 ∨ cl22.slots.size ≤ ((own_n Mq6)).toNatClampNeg) := own_inb (n := 100) (k := Mq6) Sz22 (by decide) (by omega)
   have hat22 : cl22.slots[((own_n Mq6)).toNatClampNeg]? = some (.int (own_d2 Mq6)) := own_at (n := 100) (k := Mq6) (g := own_d2) Hs22 Sz22 (by decide) (by omega) rfl
   obtain ⟨kc23, cl23, Ar23, qk23, Sz23, Ng23, Hs23, Gs23⟩ := id V16
   have hin23 : ¬ ((own_n ((cq6 - 1) - 1)) < 0 ∨ cl23.slots.size ≤ ((own_n ((cq6 - 1) - 1))).toNatClampNeg) := own_inb (n := cap) (k := ((cq6 - 1) - 1)) Sz23 (by omega) (by omega)
   obtain ⟨T24, h24, X24, e24, W24, st24⟩ := stB X20 hx hZ e20 Ar23 (j := (own_n ((cq6 - 1) - 1))) hin23 (g := (mkF m 177 #[.val (.long (own_ngL Mq4)), .second, iv (own_n ix), rv b0, xs4_0, xs4_1, xs6_0, iv ((own_n ((cq6 - 1) - 1))), iv 1, xs6_1, iv (own_ng Mq6)] [(.int (own_d2 Mq6)), (.int (own_n ((cq6 - 1) - 1))), (.ref b0)])) rfl rfl (Y 39 rfl)
   have N24 := Fr.snoc X24 N16 hgb
   have Z24 : n0 ≤ h24.size := Nat.le_trans Z16 (Nat.le_of_eq W24.size.symm)
   have K24 : Keep h0 h24 [b0] := K16.wr W24 (Or.inl (List.mem_of_getElem? (i := 0) rfl))
   rw [own_nd2 (by omega)] at W24
   have V24 : own_Ab Z h24 b0 cap (own_up (own_up gq6 (cq6 - 1) (own_d1 Mq6)) ((cq6 - 1) - 1) (own_d2 Mq6)) := own_arsetB (g := (own_up gq6 (cq6 - 1) (own_d1 Mq6))) (k := ((cq6 - 1) - 1)) Ar23 qk23 Sz23 Ng23 Hs23 Gs23 W24 (own_fd2 (by omega)) (by omega) (by omega)
   obtain ⟨kc25, cl25, Ar25, qk25, Sz25, Ng25, Hs25, Gs25⟩ := id V24
   have hin25 : ¬ ((own_n (((cq6 - 1) - 1) - 1)) < 0 ∨ cl25.slots.size ≤ ((own_n (((cq6 - 1) - 1) - 1))).toNatClampNeg) := own_inb (n := cap) (k := (((cq6 - 1) - 1) - 1)) Sz25 (by omega) (by omega)
   obtain ⟨T26, h26, X26, e26, W26, st26⟩ := stB X24 hx hZ e24 Ar25 (j := (own_n (((cq6 - 1) - 1) - 1))) hin25 (g := (mkF m 191 #[.val (.long (own_ngL Mq4)), .second, iv (own_n ix), rv b0, xs4_0, xs4_1, xs6_0, iv ((own_n (((cq6 - 1) - 1) - 1))), iv 1, xs6_1, iv (own_ng Mq6)] [(.int 45), (.int (own_n (((cq6 - 1) - 1) - 1))), (.ref b0)])) rfl rfl (Y 46 rfl)
   have N26 := Fr.snoc X26 N24 hgb
   have Z26 : n0 ≤ h26.size := Nat.le_trans Z24 (Nat.le_of_eq W26.size.symm)
   have K26 : Keep h0 h26 [b0] := K24.wr W26 (Or.inl (List.mem_of_getElem? (i := 0) rfl))
   rw [show nar .byte (45 : Int32) = (45 : Int32) from rfl] at W26
   have V26 : own_Ab Z h26 b0 cap (own_up (own_up (own_up gq6 (cq6 - 1) (own_d1 Mq6)) ((cq6 - 1) - 1) (own_d2 Mq6)) (((cq6 - 1) - 1) - 1) (45 : Int32)) := own_arsetB (g := (own_up (own_up gq6 (cq6 - 1) (own_d1 Mq6)) ((cq6 - 1) - 1) (own_d2 Mq6))) (k := (((cq6 - 1) - 1) - 1)) Ar25 qk25 Sz25 Ng25 Hs25 Gs25 W26 rfl (by omega) (by omega)
   have S27 : ∀ tz, oS p e below T26 (mkF m 194 #[.val (.long (own_ngL Mq4)), .second, iv (own_n ix), rv b0, xs4_0, xs4_1, xs6_0, iv ((own_n (((cq6 - 1) - 1) - 1))), iv 1, xs6_1, iv (own_ng Mq6)] [(.int (own_n (((cq6 - 1) - 1) - 1)))]) tz → P0 tz := fun tz kz => S17 tz (by
    refine XS.icmpNo X16.here hx rfl (Y 31 rfl) rfl (XT.ii_ge_f hc161_18) ?_
    refine XS.aloadN X16.here hx rfl (Y 32 rfl) rfl rfl ?_
    refine XT.iincV X16.here hx rfl (-1 : Int32) (Y 33 rfl) (by decide) rfl (l' := #[.val (.long (own_ngL Mq4)), .second, iv (own_n ix), rv b0, xs4_0, xs4_1, xs6_0, iv (((own_n (cq6 - 1)) + (-1 : Int32))), iv 1, xs6_1, iv (own_ng Mq6)]) rfl ?_
    show oS p e below T16 (mkF m 168 #[.val (.long (own_ngL Mq4)), .second, iv (own_n ix), rv b0, xs4_0, xs4_1, xs6_0, iv (((own_n (cq6 - 1)) + (-1 : Int32))), iv 1, xs6_1, iv (own_ng Mq6)] [(.ref b0)]) _
    rw [own_ndec (k := (cq6 - 1)) (by omega) (by omega)]
    show oS p e below T16 (mkF m 168 #[.val (.long (own_ngL Mq4)), .second, iv (own_n ix), rv b0, xs4_0, xs4_1, xs6_0, iv ((own_n ((cq6 - 1) - 1))), iv 1, xs6_1, iv (own_ng Mq6)] [(.ref b0)]) _
    refine XS.iload X16.here hx rfl (Y 34 rfl) rfl ?_
    refine st20 _ ?_
    refine XS.iload X20.here hx rfl (Y 36 rfl) rfl ?_
    refine XS.ineg X20.here hx rfl (Y 37 rfl) rfl ?_
    show oS p e below T20 (mkF m 176 #[.val (.long (own_ngL Mq4)), .second, iv (own_n ix), rv b0, xs4_0, xs4_1, xs6_0, iv ((own_n ((cq6 - 1) - 1))), iv 1, xs6_1, iv (own_ng Mq6)] [(.int (-(own_ng Mq6))), (.ref dX), (.int (own_n ((cq6 - 1) - 1))), (.ref b0)]) _
    rw [own_ngneg (by omega)]
    show oS p e below T20 (mkF m 176 #[.val (.long (own_ngL Mq4)), .second, iv (own_n ix), rv b0, xs4_0, xs4_1, xs6_0, iv ((own_n ((cq6 - 1) - 1))), iv 1, xs6_1, iv (own_ng Mq6)] [(.int (own_n Mq6)), (.ref dX), (.int (own_n ((cq6 - 1) - 1))), (.ref b0)]) _
    refine X20.baloadBytes hx (j := (own_n Mq6)) (v := (.int (own_d2 Mq6))) (by rw [e20]; exact Ar22.1) (State.isArrayOf_alike hZ.alike Ar22.2.1) Ar22.2.2 hin22 hat22 (g := (mkF m 176 #[.val (.long (own_ngL Mq4)), .second, iv (own_n ix), rv b0, xs4_0, xs4_1, xs6_0, iv ((own_n ((cq6 - 1) - 1))), iv 1, xs6_1, iv (own_ng Mq6)] [(.int (own_n Mq6)), (.ref dX), (.int (own_n ((cq6 - 1) - 1))), (.ref b0)])) rfl rfl (Y 38 rfl) _ ?_
    refine st24 _ ?_
    refine XS.iload X24.here hx rfl (Y 40 rfl) rfl ?_
    refine XS.ifNo X24.here hx rfl (Y 41 rfl) rfl (XT.i0_eq_f (by decide)) ?_
    show oS p e below T24 (mkF m 183 #[.val (.long (own_ngL Mq4)), .second, iv (own_n ix), rv b0, xs4_0, xs4_1, xs6_0, iv ((own_n ((cq6 - 1) - 1))), iv 1, xs6_1, iv (own_ng Mq6)] []) _
    refine XS.aloadN X24.here hx rfl (Y 42 rfl) rfl rfl ?_
    refine XT.iincV X24.here hx rfl (-1 : Int32) (Y 43 rfl) (by decide) rfl (l' := #[.val (.long (own_ngL Mq4)), .second, iv (own_n ix), rv b0, xs4_0, xs4_1, xs6_0, iv (((own_n ((cq6 - 1) - 1)) + (-1 : Int32))), iv 1, xs6_1, iv (own_ng Mq6)]) rfl ?_
    show oS p e below T24 (mkF m 187 #[.val (.long (own_ngL Mq4)), .second, iv (own_n ix), rv b0, xs4_0, xs4_1, xs6_0, iv (((own_n ((cq6 - 1) - 1)) + (-1 : Int32))), iv 1, xs6_1, iv (own_ng Mq6)] [(.ref b0)]) _
    rw [own_ndec (k := ((cq6 - 1) - 1)) (by omega) (by omega)]
    show oS p e below T24 (mkF m 187 #[.val (.long (own_ngL Mq4)), .second, iv (own_n ix), rv b0, xs4_0, xs4_1, xs6_0, iv ((own_n (((cq6 - 1) - 1) - 1))), iv 1, xs6_1, iv (own_ng Mq6)] [(.ref b0)]) _
    refine XS.iload X24.here hx rfl (Y 44 rfl) rfl ?_
    refine XT.bipushV X24.here hx rfl (45 : Int32) (Y 45 rfl) (by decide) ?_
    refine st26 _ ?_
    refine XS.iload X26.here hx rfl (Y 47 rfl) rfl ?_
    exact kz)
   obtain ⟨fs, hr, hrun, hended, hW, hsame⟩ := X26.leave (v := some (.int (own_n (((cq6 - 1) - 1) - 1)))) (fun h => by rw [Bd.returns] at h; cases h)
   refine ⟨_, _, pre0 _ (S27 _ ?_), hrun, hended, _, _, rfl, ?_, ⟨_, rfl⟩, hW, hsame.mono (by decide) (by decide)⟩
   · exact retI X26 hx Bd.returns (Y 48 rfl) hr
   · show QrmGL Z y ix b0 cap g dO dX h0 n0 _ T26.heap _
     rw [e26]
     exact ⟨_, rfl, N26, K26, _, V26, own_gcN hz hN (by omega) (fun i => (own_wr2 gq6 h10 qa6 (by omega) i).trans ((qe6 i).trans (qe4 i))) (by omega) rfl⟩
  ·have h10 : Mq6 < 10 := Nat.lt_of_not_le (fun q => hc161_18 ((own_ng9 qa6).mpr q))
   have hdd : own_dg Mq6 = 1 := own_dg1 h10
   obtain ⟨kc28, cl28, Ar28, qk28, Sz28, Ng28, Hs28, Gs28⟩ := id V16
   have hin28 : ¬ ((own_n ((cq6 - 1) - 1)) < 0 ∨ cl28.slots.size ≤ ((own_n ((cq6 - 1) - 1))).toNatClampNeg) := own_inb (n := cap) (k := ((cq6 - 1) - 1)) Sz28 (by omega) (by omega)
   obtain ⟨T29, h29, X29, e29, W29, st29⟩ := stB X16 hx hZ e16 Ar28 (j := (own_n ((cq6 - 1) - 1))) hin28 (g := (mkF m 191 #[.val (.long (own_ngL Mq4)), .second, iv (own_n ix), rv b0, xs4_0, xs4_1, xs6_0, iv ((own_n ((cq6 - 1) - 1))), iv 1, xs6_1, iv (own_ng Mq6)] [(.int 45), (.int (own_n ((cq6 - 1) - 1))), (.ref b0)])) rfl rfl (Y 46 rfl)
   have N29 := Fr.snoc X29 N16 hgb
   have Z29 : n0 ≤ h29.size := Nat.le_trans Z16 (Nat.le_of_eq W29.size.symm)
   have K29 : Keep h0 h29 [b0] := K16.wr W29 (Or.inl (List.mem_of_getElem? (i := 0) rfl))
   rw [show nar .byte (45 : Int32) = (45 : Int32) from rfl] at W29
   have V29 : own_Ab Z h29 b0 cap (own_up (own_up gq6 (cq6 - 1) (own_d1 Mq6)) ((cq6 - 1) - 1) (45 : Int32)) := own_arsetB (g := (own_up gq6 (cq6 - 1) (own_d1 Mq6))) (k := ((cq6 - 1) - 1)) Ar28 qk28 Sz28 Ng28 Hs28 Gs28 W29 rfl (by omega) (by omega)
   have S30 : ∀ tz, oS p e below T29 (mkF m 194 #[.val (.long (own_ngL Mq4)), .second, iv (own_n ix), rv b0, xs4_0, xs4_1, xs6_0, iv ((own_n ((cq6 - 1) - 1))), iv 1, xs6_1, iv (own_ng Mq6)] [(.int (own_n ((cq6 - 1) - 1)))]) tz → P0 tz := fun tz kz => S17 tz (by
    refine XS.icmpYes X16.here hx rfl (pc0 := 161) (pc' := 178) rfl (Y 31 rfl) rfl (XT.ii_ge_t hc161_18) (by decide) (by decide) ?_
    refine XS.iload X16.here hx rfl (Y 40 rfl) rfl ?_
    refine XS.ifNo X16.here hx rfl (Y 41 rfl) rfl (XT.i0_eq_f (by decide)) ?_
    show oS p e below T16 (mkF m 183 #[.val (.long (own_ngL Mq4)), .second, iv (own_n ix), rv b0, xs4_0, xs4_1, xs6_0, iv ((own_n (cq6 - 1))), iv 1, xs6_1, iv (own_ng Mq6)] []) _
    refine XS.aloadN X16.here hx rfl (Y 42 rfl) rfl rfl ?_
    refine XT.iincV X16.here hx rfl (-1 : Int32) (Y 43 rfl) (by decide) rfl (l' := #[.val (.long (own_ngL Mq4)), .second, iv (own_n ix), rv b0, xs4_0, xs4_1, xs6_0, iv (((own_n (cq6 - 1)) + (-1 : Int32))), iv 1, xs6_1, iv (own_ng Mq6)]) rfl ?_
    show oS p e below T16 (mkF m 187 #[.val (.long (own_ngL Mq4)), .second, iv (own_n ix), rv b0, xs4_0, xs4_1, xs6_0, iv (((own_n (cq6 - 1)) + (-1 : Int32))), iv 1, xs6_1, iv (own_ng Mq6)] [(.ref b0)]) _
    rw [own_ndec (k := (cq6 - 1)) (by omega) (by omega)]
    show oS p e below T16 (mkF m 187 #[.val (.long (own_ngL Mq4)), .second, iv (own_n ix), rv b0, xs4_0, xs4_1, xs6_0, iv ((own_n ((cq6 - 1) - 1))), iv 1, xs6_1, iv (own_ng Mq6)] [(.ref b0)]) _
    refine XS.iload X16.here hx rfl (Y 44 rfl) rfl ?_
    refine XT.bipushV X16.here hx rfl (45 : Int32) (Y 45 rfl) (by decide) ?_
    refine st29 _ ?_
    refine XS.iload X29.here hx rfl (Y 47 rfl) rfl ?_
    exact kz)
   obtain ⟨fs, hr, hrun, hended, hW, hsame⟩ := X29.leave (v := some (.int (own_n ((cq6 - 1) - 1)))) (fun h => by rw [Bd.returns] at h; cases h)
   refine ⟨_, _, pre0 _ (S30 _ ?_), hrun, hended, _, _, rfl, ?_, ⟨_, rfl⟩, hW, hsame.mono (by decide) (by decide)⟩
   · exact retI X29 hx Bd.returns (Y 48 rfl) hr
   · show QrmGL Z y ix b0 cap g dO dX h0 n0 _ T29.heap _
     rw [e29]
     exact ⟨_, rfl, N29, K29, _, V29, own_gcN hz hN (by omega) (fun i => (own_wr1 gq6 h10 (by omega) i).trans ((qe6 i).trans (qe4 i))) (by omega) rfl⟩
 ·have hz : ¬ y.toInt < 0 := by have := own_gtFL (k := y.toInt) (z := 0) hc6_2 rfl rfl; omega
  have hy0 : -y = own_ngL N := by rw [hN]; exact own_ngofL' hc6_2
  have hsz : own_sz y.toInt = own_dg N := by unfold own_sz; rw [if_neg hz, hN]; rfl
  have S31 : ∀ tz, oS p e below s₁ (mkF m 24 #[.val (.long (own_ngL N)), .second, iv (own_n ix), rv b0, .unset, .unset, .unset, iv (own_n ix), iv 0, .unset, .unset] []) tz → P0 tz := fun tz kz => S1 tz (by
   refine XS.ifYes X0.here hx rfl (pc0 := 6) (pc' := 13) rfl (Y 5 rfl) rfl (XT.ll_ge_t hc6_2) (by decide) (by decide) ?_
   refine XT.iconstV X0.here hx rfl (0 : Int32) (Y 49 rfl) (by decide) ?_
   refine XS.istore X0.here hx rfl (Y 8 rfl) rfl (l' := #[.val (.long y), .second, iv (own_n ix), rv b0, .unset, .unset, .unset, iv (own_n ix), iv 0, .unset, .unset]) rfl ?_
   refine XS.iload X0.here hx rfl (Y 9 rfl) rfl ?_
   refine XS.ifNo X0.here hx rfl (Y 10 rfl) rfl (XT.i0_ne_f (by decide)) ?_
   show oS p e below s₁ (mkF m 21 #[.val (.long y), .second, iv (own_n ix), rv b0, .unset, .unset, .unset, iv (own_n ix), iv 0, .unset, .unset] []) _
   refine XT.lloadN X0.here hx rfl (Y 50 rfl) rfl ?_
   refine XT.lneg X0.here hx rfl (Y 51 rfl) rfl ?_
   refine XT.lstoreN X0.here hx rfl (Y 52 rfl) rfl (l' := #[.val (.long (-y)), .second, iv (own_n ix), rv b0, .unset, .unset, .unset, iv (own_n ix), iv 0, .unset, .unset]) rfl ?_
   show oS p e below s₁ (mkF m 24 #[.val (.long (-y)), .second, iv (own_n ix), rv b0, .unset, .unset, .unset, iv (own_n ix), iv 0, .unset, .unset] []) _
   rw [hy0]
   show oS p e below s₁ (mkF m 24 #[.val (.long (own_ngL N)), .second, iv (own_n ix), rv b0, .unset, .unset, .unset, iv (own_n ix), iv 0, .unset, .unset] []) _
   exact kz)
  obtain ⟨T32, h32, l32, Mq32, gq32, cq32, xs32_0, xs32_1, xs32_2, qa32, qb32, qc32, qd32, qe32, qf32, X32, e32, N32, K32, A32, st32⟩ := own_lL b0 cap ix (0 : Int32) dO dX hx hZ hw hby hml hown hnO hnX hgb hbd.2.2 N g ix .unset .unset .unset s₁ _ _ (by omega) (by omega) (by omega) ⟨Or.inl ⟨rfl, rfl⟩, Or.inl rfl⟩ X0 e0 N0 Z0 hB hSO hSX hAO hAX
  have hp32 := own_dgpos Mq32
  have Zk32 : n0 ≤ h32.size := Nat.le_trans Z0 K32.1
  have S33 : ∀ tz, oS p e below T32 (mkF m 86 #[.val (.long (own_ngL Mq32)), .second, iv (own_n ix), rv b0, xs32_0, xs32_1, xs32_2, iv (own_n cq32), iv 0, .unset, iv (own_ng Mq32)] []) tz → P0 tz := fun tz kz => S31 tz (by
   refine st32 _ ?_
   show oS p e below T32 (mkF m 24 #[.val (.long (own_ngL Mq32)), .second, iv (own_n ix), rv b0, xs32_0, xs32_1, xs32_2, iv (own_n cq32), iv 0, .unset, .unset] []) _
   refine XT.lloadN X32.here hx rfl (Y 11 rfl) rfl ?_
   refine X32.ldc2J hx hown (mvT hZ (oq hw 180 rfl)) rfl (Y 12 rfl) ?_
   refine XT.lcmp X32.here hx rfl (Y 13 rfl) rfl ?_
   refine XS.ifYes X32.here hx rfl (pc0 := 29) (pc' := 82) rfl (Y 14 rfl) rfl (XT.ll_gt_t (own_ngLlt qa32)) (by decide) (by decide) ?_
   refine XT.lloadN X32.here hx rfl (Y 15 rfl) rfl ?_
   show oS p e below T32 (mkF m 83 #[.val (.long (own_ngL Mq32)), .second, iv (own_n ix), rv b0, xs32_0, xs32_1, xs32_2, iv (own_n cq32), iv 0, .unset, .unset] [(.long (own_ngL Mq32))]) _
   refine XT.l2i X32.here hx rfl (Y 16 rfl) rfl ?_
   show oS p e below T32 (mkF m 84 #[.val (.long (own_ngL Mq32)), .second, iv (own_n ix), rv b0, xs32_0, xs32_1, xs32_2, iv (own_n cq32), iv 0, .unset, .unset] [(.int ((own_ngL Mq32)).toInt32)]) _
   rw [own_ngcast qa32]
   show oS p e below T32 (mkF m 84 #[.val (.long (own_ngL Mq32)), .second, iv (own_n ix), rv b0, xs32_0, xs32_1, xs32_2, iv (own_n cq32), iv 0, .unset, .unset] [(.int (own_ng Mq32))]) _
   refine XS.istore X32.here hx rfl (Y 17 rfl) rfl (l' := #[.val (.long (own_ngL Mq32)), .second, iv (own_n ix), rv b0, xs32_0, xs32_1, xs32_2, iv (own_n cq32), iv 0, .unset, iv (own_ng Mq32)]) rfl ?_
   exact kz)
  have f35 := (own_stak hSO K32 (allS hB.ns all0))
  have f36 := (own_stak hSX K32 (allS hB.ns all0))
  have f37 := (hAO.keep K32 (ninS hnO nin0))
  have f38 := (hAX.keep K32 (ninS hnX nin0))
  obtain ⟨T34, h34, l34, Mq34, gq34, cq34, xs34_0, xs34_1, qa34, qb34, qc34, qd34, qe34, qf34, X34, e34, N34, K34, A34, st34⟩ := own_lK b0 cap ix (0 : Int32) dO dX (own_ngL Mq32) xs32_0 xs32_1 hx hZ hw hby hml hown hnO hnX hgb hbd.2.2 Mq32 gq32 cq32 xs32_2 .unset T32 _ _ (by omega) (by omega) (by omega) ⟨qf32.2, Or.inl rfl⟩ X32 e32 N32 Zk32 A32 f35 f36 f37 f38
  have hp34 := own_dgpos Mq34
  have Zk34 : n0 ≤ h34.size := Nat.le_trans Zk32 K34.1
  have Kk34 : Keep h0 h34 [b0] := K32.trans K34 (fun x hx => Or.inl hx)
  have f39 := (own_stak f35 K34 (allS A32.ns all0))
  obtain ⟨T40, X40, e40, st40⟩ := getS2 X34 hx hZ hown (host := "") (Or.inl (oq hw 181 rfl)) Via.refl e34 f39 (g := (mkF m 149 #[.val (.long (own_ngL Mq32)), .second, iv (own_n ix), rv b0, xs32_0, xs32_1, xs34_0, iv ((own_n (cq34 - 1))), iv 0, xs34_1, iv (own_ng Mq34)] [(.int (own_n (cq34 - 1))), (.ref b0)])) rfl (Y 24 rfl)
  have f41 := (f37.keep K34 (ninS hnO nin0))
  obtain ⟨kc42, cl42, Ar42, qk42, Sz42, Ng42, Hs42, Gs42⟩ := id f41
  have hin42 : ¬ ((own_n Mq34) < 0 ∨ cl42.slots.size ≤ ((own_n Mq34)).toNatClampNeg) := own_inb (n := 100) (k := Mq34) Sz42 (by decide) (by omega)
  have hat42 : cl42.slots[((own_n Mq34)).toNatClampNeg]? = some (.int (own_d1 Mq34)) := own_at (n := 100) (k := Mq34) (g := own_d1) Hs42 Sz42 (by decide) (by omega) rfl
  obtain ⟨kc43, cl43, Ar43, qk43, Sz43, Ng43, Hs43, Gs43⟩ := id A34
  have hin43 : ¬ ((own_n (cq34 - 1)) < 0 ∨ cl43.slots.size ≤ ((own_n (cq34 - 1))).toNatClampNeg) := own_inb (n := cap) (k := (cq34 - 1)) Sz43 (by omega) (by omega)
  obtain ⟨T44, h44, X44, e44, W44, st44⟩ := stB X40 hx hZ e40 Ar43 (j := (own_n (cq34 - 1))) hin43 (g := (mkF m 156 #[.val (.long (own_ngL Mq32)), .second, iv (own_n ix), rv b0, xs32_0, xs32_1, xs34_0, iv ((own_n (cq34 - 1))), iv 0, xs34_1, iv (own_ng Mq34)] [(.int (own_d1 Mq34)), (.int (own_n (cq34 - 1))), (.ref b0)])) rfl rfl (Y 28 rfl)
  have N44 := Fr.snoc X44 N34 hgb
  have Z44 : n0 ≤ h44.size := Nat.le_trans Zk34 (Nat.le_of_eq W44.size.symm)
  have K44 : Keep h0 h44 [b0] := Kk34.wr W44 (Or.inl (List.mem_of_getElem? (i := 0) rfl))
  rw [own_nd1] at W44
  have V44 : own_Ab Z h44 b0 cap (own_up gq34 (cq34 - 1) (own_d1 Mq34)) := own_arsetB (g := gq34) (k := (cq34 - 1)) Ar43 qk43 Sz43 Ng43 Hs43 Gs43 W44 (own_fd1 _) (by omega) (by omega)
  have S45 : ∀ tz, oS p e below T44 (mkF m 161 #[.val (.long (own_ngL Mq32)), .second, iv (own_n ix), rv b0, xs32_0, xs32_1, xs34_0, iv ((own_n (cq34 - 1))), iv 0, xs34_1, iv (own_ng Mq34)] [(.int (-9)), (.int (own_ng Mq34))]) tz → P0 tz := fun tz kz => S33 tz (by
   refine st34 _ ?_
   show oS p e below T34 (mkF m 86 #[.val (.long (own_ngL Mq32)), .second, iv (own_n ix), rv b0, xs32_0, xs32_1, xs34_0, iv (own_n cq34), iv 0, xs34_1, iv (own_ng Mq34)] []) _
   refine XS.iload X34.here hx rfl (Y 18 rfl) rfl ?_
   refine XT.bipushV X34.here hx rfl (-100 : Int32) (Y 19 rfl) (by decide) ?_
   refine XS.icmpYes X34.here hx rfl (pc0 := 90) (pc' := 143) rfl (Y 20 rfl) rfl (XT.ii_gt_t (own_nglt qa34)) (by decide) (by decide) ?_
   refine XS.aloadN X34.here hx rfl (Y 21 rfl) rfl rfl ?_
   refine XT.iincV X34.here hx rfl (-1 : Int32) (Y 22 rfl) (by decide) rfl (l' := #[.val (.long (own_ngL Mq32)), .second, iv (own_n ix), rv b0, xs32_0, xs32_1, xs34_0, iv (((own_n cq34) + (-1 : Int32))), iv 0, xs34_1, iv (own_ng Mq34)]) rfl ?_
   show oS p e below T34 (mkF m 147 #[.val (.long (own_ngL Mq32)), .second, iv (own_n ix), rv b0, xs32_0, xs32_1, xs34_0, iv (((own_n cq34) + (-1 : Int32))), iv 0, xs34_1, iv (own_ng Mq34)] [(.ref b0)]) _
   rw [own_ndec (k := cq34) (by omega) (by omega)]
   show oS p e below T34 (mkF m 147 #[.val (.long (own_ngL Mq32)), .second, iv (own_n ix), rv b0, xs32_0, xs32_1, xs34_0, iv ((own_n (cq34 - 1))), iv 0, xs34_1, iv (own_ng Mq34)] [(.ref b0)]) _
   refine XS.iload X34.here hx rfl (Y 23 rfl) rfl ?_
   refine st40 _ ?_
   refine XS.iload X40.here hx rfl (Y 25 rfl) rfl ?_
   refine XS.ineg X40.here hx rfl (Y 26 rfl) rfl ?_
   show oS p e below T40 (mkF m 155 #[.val (.long (own_ngL Mq32)), .second, iv (own_n ix), rv b0, xs32_0, xs32_1, xs34_0, iv ((own_n (cq34 - 1))), iv 0, xs34_1, iv (own_ng Mq34)] [(.int (-(own_ng Mq34))), (.ref dO), (.int (own_n (cq34 - 1))), (.ref b0)]) _
   rw [own_ngneg (by omega)]
   show oS p e below T40 (mkF m 155 #[.val (.long (own_ngL Mq32)), .second, iv (own_n ix), rv b0, xs32_0, xs32_1, xs34_0, iv ((own_n (cq34 - 1))), iv 0, xs34_1, iv (own_ng Mq34)] [(.int (own_n Mq34)), (.ref dO), (.int (own_n (cq34 - 1))), (.ref b0)]) _
   refine X40.baloadBytes hx (j := (own_n Mq34)) (v := (.int (own_d1 Mq34))) (by rw [e40]; exact Ar42.1) (State.isArrayOf_alike hZ.alike Ar42.2.1) Ar42.2.2 hin42 hat42 (g := (mkF m 155 #[.val (.long (own_ngL Mq32)), .second, iv (own_n ix), rv b0, xs32_0, xs32_1, xs34_0, iv ((own_n (cq34 - 1))), iv 0, xs34_1, iv (own_ng Mq34)] [(.int (own_n Mq34)), (.ref dO), (.int (own_n (cq34 - 1))), (.ref b0)])) rfl rfl (Y 27 rfl) _ ?_
   refine st44 _ ?_
   refine XS.iload X44.here hx rfl (Y 29 rfl) rfl ?_
   refine XT.bipushV X44.here hx rfl (-9 : Int32) (Y 30 rfl) (by decide) ?_
   exact kz)
  by_cases hc161_46 : (own_ng Mq34) < (-9 : Int32)
  ·have h10 := (own_ng9 qa34).mp hc161_46
   have hdd : own_dg Mq34 = 2 := by rw [own_dgS h10, own_dg1 (by omega)]
   have f47 := ((own_stak f36 K34 (allS A32.ns all0)).wr W44)
   obtain ⟨T48, X48, e48, st48⟩ := getS2 X44 hx hZ hown (host := "") (Or.inl (oq hw 283 rfl)) Via.refl e44 f47 (g := (mkF m 170 #[.val (.long (own_ngL Mq32)), .second, iv (own_n ix), rv b0, xs32_0, xs32_1, xs34_0, iv ((own_n ((cq34 - 1) - 1))), iv 0, xs34_1, iv (own_ng Mq34)] [(.int (own_n ((cq34 - 1) - 1))), (.ref b0)])) rfl (Y 35 rfl)
   have f49 := ((f38.keep K34 (ninS hnX nin0)).other W44 hnX)
   obtain ⟨kc50, cl50, Ar50, qk50, Sz50, Ng50, Hs50, Gs50⟩ := id f49
   have hin50 : ¬ ((own_n Mq34) < 0 ∨ cl50.slots.size ≤ ((own_n Mq34)).toNatClampNeg) := own_inb (n := 100) (k := Mq34) Sz50 (by decide) (by omega)
   have hat50 : cl50.slots[((own_n Mq34)).toNatClampNeg]? = some (.int (own_d2 Mq34)) := own_at (n := 100) (k := Mq34) (g := own_d2) Hs50 Sz50 (by decide) (by omega) rfl
   obtain ⟨kc51, cl51, Ar51, qk51, Sz51, Ng51, Hs51, Gs51⟩ := id V44
   have hin51 : ¬ ((own_n ((cq34 - 1) - 1)) < 0 ∨ cl51.slots.size ≤ ((own_n ((cq34 - 1) - 1))).toNatClampNeg) := own_inb (n := cap) (k := ((cq34 - 1) - 1)) Sz51 (by omega) (by omega)
   obtain ⟨T52, h52, X52, e52, W52, st52⟩ := stB X48 hx hZ e48 Ar51 (j := (own_n ((cq34 - 1) - 1))) hin51 (g := (mkF m 177 #[.val (.long (own_ngL Mq32)), .second, iv (own_n ix), rv b0, xs32_0, xs32_1, xs34_0, iv ((own_n ((cq34 - 1) - 1))), iv 0, xs34_1, iv (own_ng Mq34)] [(.int (own_d2 Mq34)), (.int (own_n ((cq34 - 1) - 1))), (.ref b0)])) rfl rfl (Y 39 rfl)
   have N52 := Fr.snoc X52 N44 hgb
   have Z52 : n0 ≤ h52.size := Nat.le_trans Z44 (Nat.le_of_eq W52.size.symm)
   have K52 : Keep h0 h52 [b0] := K44.wr W52 (Or.inl (List.mem_of_getElem? (i := 0) rfl))
   rw [own_nd2 (by omega)] at W52
   have V52 : own_Ab Z h52 b0 cap (own_up (own_up gq34 (cq34 - 1) (own_d1 Mq34)) ((cq34 - 1) - 1) (own_d2 Mq34)) := own_arsetB (g := (own_up gq34 (cq34 - 1) (own_d1 Mq34))) (k := ((cq34 - 1) - 1)) Ar51 qk51 Sz51 Ng51 Hs51 Gs51 W52 (own_fd2 (by omega)) (by omega) (by omega)
   have S53 : ∀ tz, oS p e below T52 (mkF m 194 #[.val (.long (own_ngL Mq32)), .second, iv (own_n ix), rv b0, xs32_0, xs32_1, xs34_0, iv ((own_n ((cq34 - 1) - 1))), iv 0, xs34_1, iv (own_ng Mq34)] [(.int (own_n ((cq34 - 1) - 1)))]) tz → P0 tz := fun tz kz => S45 tz (by
    refine XS.icmpNo X44.here hx rfl (Y 31 rfl) rfl (XT.ii_ge_f hc161_46) ?_
    show oS p e below T44 (mkF m 164 #[.val (.long (own_ngL Mq32)), .second, iv (own_n ix), rv b0, xs32_0, xs32_1, xs34_0, iv ((own_n (cq34 - 1))), iv 0, xs34_1, iv (own_ng Mq34)] []) _
    refine XS.aloadN X44.here hx rfl (Y 32 rfl) rfl rfl ?_
    refine XT.iincV X44.here hx rfl (-1 : Int32) (Y 33 rfl) (by decide) rfl (l' := #[.val (.long (own_ngL Mq32)), .second, iv (own_n ix), rv b0, xs32_0, xs32_1, xs34_0, iv (((own_n (cq34 - 1)) + (-1 : Int32))), iv 0, xs34_1, iv (own_ng Mq34)]) rfl ?_
    show oS p e below T44 (mkF m 168 #[.val (.long (own_ngL Mq32)), .second, iv (own_n ix), rv b0, xs32_0, xs32_1, xs34_0, iv (((own_n (cq34 - 1)) + (-1 : Int32))), iv 0, xs34_1, iv (own_ng Mq34)] [(.ref b0)]) _
    rw [own_ndec (k := (cq34 - 1)) (by omega) (by omega)]
    show oS p e below T44 (mkF m 168 #[.val (.long (own_ngL Mq32)), .second, iv (own_n ix), rv b0, xs32_0, xs32_1, xs34_0, iv ((own_n ((cq34 - 1) - 1))), iv 0, xs34_1, iv (own_ng Mq34)] [(.ref b0)]) _
    refine XS.iload X44.here hx rfl (Y 34 rfl) rfl ?_
    refine st48 _ ?_
    refine XS.iload X48.here hx rfl (Y 36 rfl) rfl ?_
    refine XS.ineg X48.here hx rfl (Y 37 rfl) rfl ?_
    show oS p e below T48 (mkF m 176 #[.val (.long (own_ngL Mq32)), .second, iv (own_n ix), rv b0, xs32_0, xs32_1, xs34_0, iv ((own_n ((cq34 - 1) - 1))), iv 0, xs34_1, iv (own_ng Mq34)] [(.int (-(own_ng Mq34))), (.ref dX), (.int (own_n ((cq34 - 1) - 1))), (.ref b0)]) _
    rw [own_ngneg (by omega)]
    show oS p e below T48 (mkF m 176 #[.val (.long (own_ngL Mq32)), .second, iv (own_n ix), rv b0, xs32_0, xs32_1, xs34_0, iv ((own_n ((cq34 - 1) - 1))), iv 0, xs34_1, iv (own_ng Mq34)] [(.int (own_n Mq34)), (.ref dX), (.int (own_n ((cq34 - 1) - 1))), (.ref b0)]) _
    refine X48.baloadBytes hx (j := (own_n Mq34)) (v := (.int (own_d2 Mq34))) (by rw [e48]; exact Ar50.1) (State.isArrayOf_alike hZ.alike Ar50.2.1) Ar50.2.2 hin50 hat50 (g := (mkF m 176 #[.val (.long (own_ngL Mq32)), .second, iv (own_n ix), rv b0, xs32_0, xs32_1, xs34_0, iv ((own_n ((cq34 - 1) - 1))), iv 0, xs34_1, iv (own_ng Mq34)] [(.int (own_n Mq34)), (.ref dX), (.int (own_n ((cq34 - 1) - 1))), (.ref b0)])) rfl rfl (Y 38 rfl) _ ?_
    refine st52 _ ?_
    show oS p e below T52 (mkF m 178 #[.val (.long (own_ngL Mq32)), .second, iv (own_n ix), rv b0, xs32_0, xs32_1, xs34_0, iv ((own_n ((cq34 - 1) - 1))), iv 0, xs34_1, iv (own_ng Mq34)] []) _
    refine XS.iload X52.here hx rfl (Y 40 rfl) rfl ?_
    refine XS.ifYes X52.here hx rfl (pc0 := 180) (pc' := 192) rfl (Y 41 rfl) rfl (XT.i0_eq_t (by decide)) (by decide) (by decide) ?_
    refine XS.iload X52.here hx rfl (Y 47 rfl) rfl ?_
    exact kz)
   obtain ⟨fs, hr, hrun, hended, hW, hsame⟩ := X52.leave (v := some (.int (own_n ((cq34 - 1) - 1)))) (fun h => by rw [Bd.returns] at h; cases h)
   refine ⟨_, _, pre0 _ (S53 _ ?_), hrun, hended, _, _, rfl, ?_, ⟨_, rfl⟩, hW, hsame.mono (by decide) (by decide)⟩
   · exact retI X52 hx Bd.returns (Y 48 rfl) hr
   · show QrmGL Z y ix b0 cap g dO dX h0 n0 _ T52.heap _
     rw [e52]
     exact ⟨_, rfl, N52, K52, _, V52, own_gcP hz hN (by omega) (fun i => (own_wr2 gq34 h10 qa34 (by omega) i).trans ((qe34 i).trans (qe32 i)))⟩
  ·have h10 : Mq34 < 10 := Nat.lt_of_not_le (fun q => hc161_46 ((own_ng9 qa34).mpr q))
   have hdd : own_dg Mq34 = 1 := own_dg1 h10
   have S54 : ∀ tz, oS p e below T44 (mkF m 194 #[.val (.long (own_ngL Mq32)), .second, iv (own_n ix), rv b0, xs32_0, xs32_1, xs34_0, iv ((own_n (cq34 - 1))), iv 0, xs34_1, iv (own_ng Mq34)] [(.int (own_n (cq34 - 1)))]) tz → P0 tz := fun tz kz => S45 tz (by
    refine XS.icmpYes X44.here hx rfl (pc0 := 161) (pc' := 178) rfl (Y 31 rfl) rfl (XT.ii_ge_t hc161_46) (by decide) (by decide) ?_
    show oS p e below T44 (mkF m 178 #[.val (.long (own_ngL Mq32)), .second, iv (own_n ix), rv b0, xs32_0, xs32_1, xs34_0, iv ((own_n (cq34 - 1))), iv 0, xs34_1, iv (own_ng Mq34)] []) _
    refine XS.iload X44.here hx rfl (Y 40 rfl) rfl ?_
    refine XS.ifYes X44.here hx rfl (pc0 := 180) (pc' := 192) rfl (Y 41 rfl) rfl (XT.i0_eq_t (by decide)) (by decide) (by decide) ?_
    refine XS.iload X44.here hx rfl (Y 47 rfl) rfl ?_
    exact kz)
   obtain ⟨fs, hr, hrun, hended, hW, hsame⟩ := X44.leave (v := some (.int (own_n (cq34 - 1)))) (fun h => by rw [Bd.returns] at h; cases h)
   refine ⟨_, _, pre0 _ (S54 _ ?_), hrun, hended, _, _, rfl, ?_, ⟨_, rfl⟩, hW, hsame.mono (by decide) (by decide)⟩
   · exact retI X44 hx Bd.returns (Y 48 rfl) hr
   · show QrmGL Z y ix b0 cap g dO dX h0 n0 _ T44.heap _
     rw [e44]
     exact ⟨_, rfl, N44, K44, _, V44, own_gcP hz hN (by omega) (fun i => (own_wr1 gq34 h10 (by omega) i).trans ((qe34 i).trans (qe32 i)))⟩
theorem D_rmApI : oL jdk_68_method_32_code [(0, .aload_n 0, 1), (1, .getfield 79, 3), (4, .istore_n 2, 1), (5, .iload_n 2, 1), (6, .iload_n 1, 1), (7, .invokestatic 245, 3), (10, .iadd, 1), (11, .istore_n 3, 1), (12, .aload_n 0, 1), (13, .iload_n 3, 1), (14, .invokevirtual 100, 3), (17, .aload_n 0, 1), (18, .invokevirtual 83, 3), (21, .ifCond .eq 16, 3), (24, .iload_n 1, 1), (25, .iload_n 3, 1), (26, .aload_n 0, 1), (27, .getfield 15, 3), (30, .invokestatic 248, 3), (33, .pop, 1), (34, .goto 14, 3), (48, .aload_n 0, 1), (49, .iload_n 3, 1), (50, .putfield 79, 3), (53, .aload_n 0, 1), (54, .areturn, 1)] := by decide +kernel
theorem pd__IIA_B_I : parseMethodDescriptor "(II[B)I" = some ⟨[.int, .int, (.array .byte)], some .int⟩ := by decide +kernel
def QrmApI (Z : State) (a0 : Addr) (b0 : Addr) (cap : Nat) (n : Nat) (g : Nat → Int32) (y : Int32) (dO : Addr) (dX : Addr) (wC : Int32) (h0 : Heap) (n0 : Nat) (v : Option Value) (h : Heap) (L : List Loc) : Prop := v = some (.ref a0) ∧ Fr n0 L ∧ ∃ (b : Addr) (gn : Nat → Int32), Keep h0 h [a0, b0] ∧ own_Bd Z h a0 b (own_gr cap (n + (own_sz y.toInt))) (n + (own_sz y.toInt)) gn ∧ (∀ i, i < n → gn i = g i) ∧ (∀ i, i < (own_sz y.toInt) → gn (n + i) = (own_num y.toInt) i) ∧ (b = b0 ∨ h0.size ≤ b)
theorem rmApI (l : Launch) (Z : State) (av0 : Array Value) (hw : ∀ d ∈ tables_1, d.before av0 Z = true) (ws : List Jvm.Cond) (a0 : Addr) (b0 : Addr) (cap : Nat) (n : Nat) (g : Nat → Int32) (y : Int32) (dO : Addr) (dX : Addr) (wC : Int32) (h0 : Heap) (n0 : Nat) (Z0 : n0 ≤ h0.size) (hD : own_Bd Z h0 a0 b0 cap n g) (hne : a0 ≠ b0) (hga : n0 ≤ a0) (hgb : n0 ≤ b0) (hSO : Sta Z h0 "java/lang/Integer" "DigitOnes" "[B" (.ref dO)) (hSX : Sta Z h0 "java/lang/Integer" "DigitTens" "[B" (.ref dX)) (hAO : own_Ab Z h0 dO 100 own_d1) (hAX : own_Ab Z h0 dX 100 own_d2) (hnO : dO ≠ b0) (hnX : dX ≠ b0) (hmO : dO ≠ a0) (hmX : dX ≠ a0) (hbd : n ≤ cap ∧ n + (own_sz y.toInt) ≤ 70 ∧ cap ≤ 140) (hcp : 0 < cap) (hSC : Sta Z h0 "java/lang/String" "COMPACT_STRINGS" "Z" (.int wC)) (hwC : ¬ wC = (0 : Int32)) :
   own_Met l mN29 jdk_68_method_32_code 4 (some (.object "java/lang/AbstractStringBuilder")) ws ({ frames := 4, cells := 1, slots := 140, locals := 69 } : Room) #[(.ref a0), (.int y)] Z h0 (QrmApI Z a0 b0 cap n g y dO dX wC h0 n0) := by
 refine MetFree.of_bodySF (plainFor_of_name pn_AbstractStringBuilder) hisR ?_
 intro p e s m args below meth c s₁ Bd hml0 hP hK
 obtain ⟨rfl, hZ, hh⟩ := hP
 have hml : c.maxLocals = 4 := hml0
 obtain ⟨hx, hby, hown, hnm, X0, e0⟩ := own_start Bd hml0 hh
 have N0 := Fr.nil n0
 have Y := @oY _ _ _ hby D_rmApI
 obtain ⟨P0, in0, pre0⟩ : ∃ P : State → Prop, (∀ tz, oS p e below s₁ (mkF m 0 #[rv a0, iv y, .unset, .unset] []) tz → P tz) ∧ ∀ tz, P tz → Steps p.tables e below (s₁.setTop (entryFrame m #[(.ref a0), (.int y)] 4)) tz := ⟨_, fun _ kz => kz, fun tz kz => castTop (by first | (simp [entryFrame, mkF, argsToLocals, Value.category]; done) | rfl) kz⟩
 obtain ⟨T1, X1, e1, st1⟩ := getF X0 hx hZ hown (host := "") (Or.inl (oq hw 89 rfl)) Via.refl e0 hD.N (g := (mkF m 1 #[rv a0, iv y, .unset, .unset] [(.ref a0)])) rfl rfl (Y 1 rfl)
 obtain ⟨_, T2, Lc2, X2, hQ2, st2⟩ := own_callS (W := 1) (y := mN25) X1 hx hZ hown (oq hw 149 rfl) (oq hw 150 rfl) (oq hw 151 rfl) (oq hw 152 rfl) (by decide) (rmIS l Z av0 hw [] y h0 n0 Z0 ) (by decide) (by decide) (g := (mkF m 7 #[rv a0, iv y, iv (own_n n), .unset] [(.int y), (.int (own_n n))])) rfl (by rw [hml]; rfl) (argsL := [(.int y)]) (rest := [(.int (own_n n))]) (lenOf pd__I_I rfl) rfl (Y 5 rfl) rfl e1 (by decide : 0 + 0 ≤ _) (by decide : 0 + 0 ≤ _)
 obtain ⟨rfl, N2q, hh2⟩ := hQ2
 have N2 := Fr.app N0 N2q
 have e2 : T2.heap = h0 := hh2
 obtain ⟨_, T3, Lc3, X3, hQ3, st3⟩ := own_privateS (W := 0) (y := mN7) X2 hx hZ hown (oq hw 91 rfl) (oq hw 94 rfl) (oq hw 93 rfl) (oq hw 92 rfl) (oq hw 95 rfl) (oq hw 57 rfl) (by decide) (rmEC l Z av0 hw [] a0 b0 cap n g (n + (own_sz y.toInt)) h0 n0 Z0 (own_Bd.mk hD.E hD.C hD.V hD.N hD.A) hne hga hgb ⟨by omega, by omega, by omega⟩) (by decide) (by decide) hD.E (g := (mkF m 14 #[rv a0, iv y, iv (own_n n), iv ((own_n (n + (own_sz y.toInt))))] [(.int (own_n (n + (own_sz y.toInt)))), (.ref a0)])) rfl (by rw [hml]; rfl) (argsL := [(.int (own_n (n + (own_sz y.toInt))))]) (rest := []) (lenOf pd__I_V rfl) rfl (Y 10 rfl) rfl e2 (by decide : 0 + 1 ≤ _) (by decide : 0 + 140 ≤ _)
 obtain ⟨rfl, N3q, b3, gn3, K3, Db3, ga3, gb3⟩ := hQ3
 have N3 := Fr.app N2 N3q
 have e3 : T3.heap = T3.heap := rfl
 have ne_a0_b3 : a0 ≠ b3 := own_or gb3 hne (Nat.ne_of_lt ∘ Nat.lt_of_lt_of_le hD.E.lt)
 have ne_dO_b3 : dO ≠ b3 := own_or gb3 hnO (Nat.ne_of_lt ∘ Nat.lt_of_lt_of_le hAO.lt)
 have ne_dX_b3 : dX ≠ b3 := own_or gb3 hnX (Nat.ne_of_lt ∘ Nat.lt_of_lt_of_le hAX.lt)
 have ge_b3 : n0 ≤ b3 := own_ge gb3 hgb Z0
 have Zk3 : n0 ≤ T3.heap.size := Nat.le_trans Z0 K3.1
 have Kk3 : Keep h0 T3.heap [a0, b0] := (Keep.refl h0 [a0, b0]).trans K3 (allS (Or.inl (List.mem_of_getElem? (i := 0) rfl)) all0)
 have f4 := (own_stak hSC K3 (allS (own_exns hD.E) all0))
 obtain ⟨_, T5, Lc5, X5, hQ5, st5⟩ := own_virtual (W := 0) (y := mN15) (z := mN15) X3 hx hZ hown (oq hw 153 rfl) (oq hw 154 rfl) (notFace_of_selects (args := #[]) (mvT hZ (oq hw 156 rfl))) (oq hw 156 rfl) (oq hw 155 rfl) (oq hw 157 rfl) (oq hw 57 rfl) (by decide) (rmIL l Z av0 hw [] a0 b3 (own_gr cap (n + (own_sz y.toInt))) n gn3 wC T3.heap n0 Zk3 (own_Bd.mk Db3.E Db3.C Db3.V Db3.N Db3.A) f4 hwC) (by decide) (by decide) Db3.E (g := (mkF m 18 #[rv a0, iv y, iv (own_n n), iv ((own_n (n + (own_sz y.toInt))))] [(.ref a0)])) rfl (by rw [hml]; rfl) (argsL := []) (rest := []) (lenOf pd__Z rfl) rfl (Y 12 rfl) rfl e3 (by decide : 1 + 0 ≤ _) (by decide : 140 + 0 ≤ _)
 obtain ⟨rfl, N5q, hh5⟩ := hQ5
 have N5 := Fr.app N3 N5q
 have e5 : T5.heap = T3.heap := hh5
 obtain ⟨T6, X6, e6, st6⟩ := getF X5 hx hZ hown (host := "") (Or.inl (oq hw 61 rfl)) Via.refl e5 Db3.V (g := (mkF m 27 #[rv a0, iv y, iv (own_n n), iv ((own_n (n + (own_sz y.toInt))))] [(.ref a0), (.int (own_n (n + (own_sz y.toInt)))), (.int y)])) rfl rfl (Y 17 rfl)
 have f7 := (own_stak hSO K3 (allS (own_exns hD.E) all0))
 have f8 := (own_stak hSX K3 (allS (own_exns hD.E) all0))
 have f9 := (hAO.keep K3 (ninS hmO nin0))
 have f10 := (hAX.keep K3 (ninS hmX nin0))
 obtain ⟨_, T11, Lc11, X11, hQ11, st11⟩ := own_callS (W := 0) (y := mN27) X6 hx hZ hown (oq hw 158 rfl) (oq hw 159 rfl) (oq hw 151 rfl) (oq hw 160 rfl) (by decide) (rmGI l Z av0 hw [] y (n + (own_sz y.toInt)) b3 (own_gr cap (n + (own_sz y.toInt))) gn3 dO dX T3.heap n0 Zk3 Db3.A f7 f8 f9 f10 ne_dO_b3 ne_dX_b3 ge_b3 ⟨Nat.le_add_left _ _, own_grge _ _, Nat.lt_of_le_of_lt (own_grlt hbd.2.1 hbd.2.2) (by decide)⟩) (by decide) (by decide) (g := (mkF m 30 #[rv a0, iv y, iv (own_n n), iv ((own_n (n + (own_sz y.toInt))))] [(.ref b3), (.int (own_n (n + (own_sz y.toInt)))), (.int y)])) rfl (by rw [hml]; rfl) (argsL := [(.int y), (.int (own_n (n + (own_sz y.toInt)))), (.ref b3)]) (rest := []) (lenOf pd__IIA_B_I rfl) rfl (Y 18 rfl) rfl e6 (by decide : 1 + 0 ≤ _) (by decide : 140 + 0 ≤ _)
 obtain ⟨zr11, rfl, N11q, K11, gm11, V11, ua11, ub11⟩ := hQ11
 have N11 := Fr.app N5 N11q
 have e11 : T11.heap = T11.heap := rfl
 have Zk11 : n0 ≤ T11.heap.size := Nat.le_trans Zk3 K11.1
 have Kk11 : Keep h0 T11.heap [a0, b0] := Kk3.trans K11 (allS (own_kor gb3) all0)
 have f12 := (Db3.N.keep K11 (ninS ne_a0_b3 nin0))
 have f13 := (Db3.E.keep K11)
 obtain ⟨T14, h14, X14, e14, W14, st14⟩ := putF X11 hx hZ hown (host := "") (Or.inl (oq hw 89 rfl)) Via.refl e11 f12 f13 (Or.inl (oq hw 90 rfl)) (oq hw 48 rfl) (ty := .int) (by decide) rfl rfl (g := (mkF m 50 #[rv a0, iv y, iv (own_n n), iv ((own_n (n + (own_sz y.toInt))))] [(.int (own_n (n + (own_sz y.toInt)))), (.ref a0)])) rfl rfl (Y 23 rfl)
 have N14 := Fr.snoc X14 N11 hga
 have Z14 : n0 ≤ h14.size := Nat.le_trans Zk11 (Nat.le_of_eq W14.size.symm)
 have K14 : Keep h0 h14 [a0, b0] := Kk11.wr W14 (Or.inl (List.mem_of_getElem? (i := 0) rfl))
 have Fw14 := f12.same W14
 have S15 : ∀ tz, oS p e below T14 (mkF m 54 #[rv a0, iv y, iv (own_n n), iv ((own_n (n + (own_sz y.toInt))))] [(.ref a0)]) tz → P0 tz := fun tz kz => in0 tz (by
  refine XS.aloadN X0.here hx rfl (Y 0 rfl) rfl rfl ?_
  refine st1 _ ?_
  refine XS.istoreN X1.here hx rfl (Y 2 rfl) rfl (l' := #[rv a0, iv y, iv (own_n n), .unset]) rfl ?_
  refine XS.iloadN X1.here hx rfl (Y 3 rfl) rfl ?_
  refine XS.iloadN X1.here hx rfl (Y 4 rfl) rfl ?_
  refine st2 _ ?_
  refine XS.iadd X2.here hx rfl (Y 6 rfl) rfl ?_
  show oS p e below T2 (mkF m 11 #[rv a0, iv y, iv (own_n n), .unset] [(.int ((own_n n) + (own_n (own_sz y.toInt))))]) _
  rw [own_nplus]
  show oS p e below T2 (mkF m 11 #[rv a0, iv y, iv (own_n n), .unset] [(.int (own_n (n + (own_sz y.toInt))))]) _
  refine XS.istoreN X2.here hx rfl (Y 7 rfl) rfl (l' := #[rv a0, iv y, iv (own_n n), iv ((own_n (n + (own_sz y.toInt))))]) rfl ?_
  refine XS.aloadN X2.here hx rfl (Y 8 rfl) rfl rfl ?_
  show oS p e below T2 (mkF m 13 #[rv a0, iv y, iv (own_n n), iv ((own_n (n + (own_sz y.toInt))))] [(.ref a0)]) _
  refine XS.iloadN X2.here hx rfl (Y 9 rfl) rfl ?_
  refine st3 _ ?_
  refine XS.aloadN X3.here hx rfl (Y 11 rfl) rfl rfl ?_
  refine st5 _ ?_
  refine XS.ifNo X5.here hx rfl (Y 13 rfl) rfl (XT.i0_eq_f (by decide)) ?_
  refine XS.iloadN X5.here hx rfl (Y 14 rfl) rfl ?_
  refine XS.iloadN X5.here hx rfl (Y 15 rfl) rfl ?_
  refine XS.aloadN X5.here hx rfl (Y 16 rfl) rfl rfl ?_
  refine st6 _ ?_
  refine st11 _ ?_
  show oS p e below T11 (mkF m 33 #[rv a0, iv y, iv (own_n n), iv ((own_n (n + (own_sz y.toInt))))] [(.int zr11)]) _
  refine XT.pop X11.here hx rfl (Y 19 rfl) rfl rfl ?_
  refine XS.goto X11.here hx rfl (pc0 := 34) (pc' := 48) rfl (Y 20 rfl) (by decide) (by decide) ?_
  refine XS.aloadN X11.here hx rfl (Y 21 rfl) rfl rfl ?_
  refine XS.iloadN X11.here hx rfl (Y 22 rfl) rfl ?_
  refine st14 _ ?_
  refine XS.aloadN X14.here hx rfl (Y 24 rfl) rfl rfl ?_
  exact kz)
 obtain ⟨fs, hr, hrun, hended, hW, hsame⟩ := X14.leave (v := some (.ref a0)) (fun h => by rw [Bd.returns] at h; cases h)
 refine ⟨_, _, pre0 _ (S15 _ ?_), hrun, hended, _, _, rfl, ?_, ⟨_, rfl⟩, hW, hsame.mono (by decide) (by decide)⟩
 · jvm_step X14.here [X14.here.top, hx, (Y 25 rfl), X14.method', Bd.returns, Value.isRef, FieldType.isReference]
   first | (intro acts; rw [hr _ acts rfl rfl rfl]) | rw [hr _ _ rfl rfl rfl]
   exact Steps.refl _
 have f16 := (f13.wr W14)
 have f17 := ((Db3.C.keep K11 (ninS ne_a0_b3 nin0)).other W14 (Or.inr (slot_ne (Or.inl (oq hw 64 rfl)) (Or.inl (oq hw 90 rfl)) (by decide) (t := .byte) (t' := .int) (by decide) (by decide))))
 have f18 := ((Db3.V.keep K11 (ninS ne_a0_b3 nin0)).other W14 (Or.inr (slot_ne (Or.inl (oq hw 62 rfl)) (Or.inl (oq hw 90 rfl)) (by decide) (t := (.array .byte)) (t' := .int) (by decide) (by decide))))
 have f19 := (V11.other W14 (Ne.symm ne_a0_b3))
 · show QrmApI Z a0 b0 cap n g y dO dX wC h0 n0 _ T14.heap _
   rw [e14]
   exact ⟨rfl, N14, b3, _, K14, (own_Bd.mk f16 f17 f18 Fw14 f19), fun i hi => (ua11 i (by omega)).trans (ga3 i (by omega)), fun i hi => by have q := ub11 i hi; rwa [show n + (own_sz y.toInt) - (own_sz y.toInt) = n by omega] at q, gb3⟩
theorem D_rmBpI : oL jdk_67_method_15_code [(0, .aload_n 0, 1), (1, .iload_n 1, 1), (2, .invokespecial 53, 3), (5, .pop, 1), (6, .aload_n 0, 1), (7, .areturn, 1)] := by decide +kernel
theorem pd__I_Ljava_lang_AbstractStringBuilder_ : parseMethodDescriptor "(I)Ljava/lang/AbstractStringBuilder;" = some ⟨[.int], some (.object "java/lang/AbstractStringBuilder")⟩ := by decide +kernel
def QrmBpI (Z : State) (a0 : Addr) (b0 : Addr) (cap : Nat) (n : Nat) (g : Nat → Int32) (y : Int32) (dO : Addr) (dX : Addr) (wC : Int32) (h0 : Heap) (n0 : Nat) (v : Option Value) (h : Heap) (L : List Loc) : Prop := v = some (.ref a0) ∧ Fr n0 L ∧ ∃ (b : Addr) (gn : Nat → Int32), Keep h0 h [a0, b0] ∧ own_Bd Z h a0 b (own_gr cap (n + (own_sz y.toInt))) (n + (own_sz y.toInt)) gn ∧ (∀ i, i < n → gn i = g i) ∧ (∀ i, i < (own_sz y.toInt) → gn (n + i) = (own_num y.toInt) i) ∧ (b = b0 ∨ h0.size ≤ b)
theorem rmBpI (l : Launch) (Z : State) (av0 : Array Value) (hw : ∀ d ∈ tables_1, d.before av0 Z = true) (ws : List Jvm.Cond) (a0 : Addr) (b0 : Addr) (cap : Nat) (n : Nat) (g : Nat → Int32) (y : Int32) (dO : Addr) (dX : Addr) (wC : Int32) (h0 : Heap) (n0 : Nat) (Z0 : n0 ≤ h0.size) (hD : own_Bd Z h0 a0 b0 cap n g) (hne : a0 ≠ b0) (hga : n0 ≤ a0) (hgb : n0 ≤ b0) (hSO : Sta Z h0 "java/lang/Integer" "DigitOnes" "[B" (.ref dO)) (hSX : Sta Z h0 "java/lang/Integer" "DigitTens" "[B" (.ref dX)) (hAO : own_Ab Z h0 dO 100 own_d1) (hAX : own_Ab Z h0 dX 100 own_d2) (hnO : dO ≠ b0) (hnX : dX ≠ b0) (hmO : dO ≠ a0) (hmX : dX ≠ a0) (hbd : n ≤ cap ∧ n + (own_sz y.toInt) ≤ 70 ∧ cap ≤ 140) (hcp : 0 < cap) (hSC : Sta Z h0 "java/lang/String" "COMPACT_STRINGS" "Z" (.int wC)) (hwC : ¬ wC = (0 : Int32)) :
   own_Met l mN30 jdk_67_method_15_code 2 (some (.object "java/lang/StringBuilder")) ws ({ frames := 5, cells := 1, slots := 140, locals := 84 } : Room) #[(.ref a0), (.int y)] Z h0 (QrmBpI Z a0 b0 cap n g y dO dX wC h0 n0) := by
 refine MetFree.of_bodySF (plainFor_of_name pn_StringBuilder) hisR ?_
 intro p e s m args below meth c s₁ Bd hml0 hP hK
 obtain ⟨rfl, hZ, hh⟩ := hP
 have hml : c.maxLocals = 2 := hml0
 obtain ⟨hx, hby, hown, hnm, X0, e0⟩ := own_start Bd hml0 hh
 have N0 := Fr.nil n0
 have Y := @oY _ _ _ hby D_rmBpI
 obtain ⟨P0, in0, pre0⟩ : ∃ P : State → Prop, (∀ tz, oS p e below s₁ (mkF m 0 #[rv a0, iv y] []) tz → P tz) ∧ ∀ tz, P tz → Steps p.tables e below (s₁.setTop (entryFrame m #[(.ref a0), (.int y)] 2)) tz := ⟨_, fun _ kz => kz, fun tz kz => castTop (by first | (simp [entryFrame, mkF, argsToLocals, Value.category]; done) | rfl) kz⟩
 obtain ⟨_, T1, Lc1, X1, hQ1, st1⟩ := own_super (W := 0) (y := mN29) (z := mN7) (K := "java/lang/StringBuilder") X0 hx hZ hown (oq hw 145 rfl) rfl (oq hw 94 rfl) (oq hw 146 rfl) (oq hw 73 rfl) (oq hw 148 rfl) (oq hw 57 rfl) (by decide) (by decide) (rmApI l Z av0 hw [] a0 b0 cap n g y dO dX wC h0 n0 Z0 hD hne hga hgb hSO hSX hAO hAX hnO hnX hmO hmX hbd hcp hSC hwC) (by decide) (by decide) (Ins.self hD.E) (g := (mkF m 2 #[rv a0, iv y] [(.int y), (.ref a0)])) rfl (by rw [hml]; rfl) (argsL := [(.int y)]) (rest := []) (lenOf pd__I_Ljava_lang_AbstractStringBuilder_ rfl) rfl (Y 2 rfl) rfl e0 (by decide : 0 + 1 ≤ _) (by decide : 0 + 140 ≤ _)
 obtain ⟨rfl, N1q, b1, gn1, K1, Db1, ga1, gc1, gb1⟩ := hQ1
 have N1 := Fr.app N0 N1q
 have e1 : T1.heap = T1.heap := rfl
 have ge_b1 : n0 ≤ b1 := own_ge gb1 hgb Z0
 have Zk1 : n0 ≤ T1.heap.size := Nat.le_trans Z0 K1.1
 have Kk1 : Keep h0 T1.heap [a0, b0] := (Keep.refl h0 [a0, b0]).trans K1 (allS (Or.inl (List.mem_of_getElem? (i := 0) rfl)) (allS (Or.inl (List.mem_of_getElem? (i := 1) rfl)) all0))
 have S2 : ∀ tz, oS p e below T1 (mkF m 7 #[rv a0, iv y] [(.ref a0)]) tz → P0 tz := fun tz kz => in0 tz (by
  refine XS.aloadN X0.here hx rfl (Y 0 rfl) rfl rfl ?_
  refine XS.iloadN X0.here hx rfl (Y 1 rfl) rfl ?_
  refine st1 _ ?_
  refine XT.pop X1.here hx rfl (Y 3 rfl) rfl rfl ?_
  refine XS.aloadN X1.here hx rfl (Y 4 rfl) rfl rfl ?_
  exact kz)
 obtain ⟨fs, hr, hrun, hended, hW, hsame⟩ := X1.leave (v := some (.ref a0)) (fun h => by rw [Bd.returns] at h; cases h)
 refine ⟨_, _, pre0 _ (S2 _ ?_), hrun, hended, _, _, rfl, ?_, ⟨_, rfl⟩, hW, hsame.mono (by decide) (by decide)⟩
 · jvm_step X1.here [X1.here.top, hx, (Y 5 rfl), X1.method', Bd.returns, Value.isRef, FieldType.isReference]
   first | (intro acts; rw [hr _ acts rfl rfl rfl]) | rw [hr _ _ rfl rfl rfl]
   exact Steps.refl _
 · show QrmBpI Z a0 b0 cap n g y dO dX wC h0 n0 _ T1.heap _
   rw [e1]
   exact ⟨rfl, N1, b1, _, Kk1, Db1, ga1, gc1, gb1⟩
theorem D_rmApJ : oL jdk_68_method_33_code [(0, .aload_n 0, 1), (1, .getfield 79, 3), (4, .istore_n 3, 1), (5, .iload_n 3, 1), (6, .lload_n 1, 1), (7, .invokestatic 254, 3), (10, .iadd, 1), (11, .istore 4, 2), (13, .aload_n 0, 1), (14, .iload 4, 2), (16, .invokevirtual 100, 3), (19, .aload_n 0, 1), (20, .invokevirtual 83, 3), (23, .ifCond .eq 17, 3), (26, .lload_n 1, 1), (27, .iload 4, 2), (29, .aload_n 0, 1), (30, .getfield 15, 3), (33, .invokestatic 259, 3), (36, .pop, 1), (37, .goto 15, 3), (52, .aload_n 0, 1), (53, .iload 4, 2), (55, .putfield 79, 3), (58, .aload_n 0, 1), (59, .areturn, 1)] := by decide +kernel
theorem pd__J_I : parseMethodDescriptor "(J)I" = some ⟨[.long], some .int⟩ := by decide +kernel
theorem pd__JIA_B_I : parseMethodDescriptor "(JI[B)I" = some ⟨[.long, .int, (.array .byte)], some .int⟩ := by decide +kernel
def QrmApJ (Z : State) (a0 : Addr) (b0 : Addr) (cap : Nat) (n : Nat) (g : Nat → Int32) (y : Int64) (dO : Addr) (dX : Addr) (wC : Int32) (h0 : Heap) (n0 : Nat) (v : Option Value) (h : Heap) (L : List Loc) : Prop := v = some (.ref a0) ∧ Fr n0 L ∧ ∃ (b : Addr) (gn : Nat → Int32), Keep h0 h [a0, b0] ∧ own_Bd Z h a0 b (own_gr cap (n + (own_sz y.toInt))) (n + (own_sz y.toInt)) gn ∧ (∀ i, i < n → gn i = g i) ∧ (∀ i, i < (own_sz y.toInt) → gn (n + i) = (own_num y.toInt) i) ∧ (b = b0 ∨ h0.size ≤ b)
theorem rmApJ (l : Launch) (Z : State) (av0 : Array Value) (hw : ∀ d ∈ tables_1, d.before av0 Z = true) (ws : List Jvm.Cond) (a0 : Addr) (b0 : Addr) (cap : Nat) (n : Nat) (g : Nat → Int32) (y : Int64) (dO : Addr) (dX : Addr) (wC : Int32) (h0 : Heap) (n0 : Nat) (Z0 : n0 ≤ h0.size) (hD : own_Bd Z h0 a0 b0 cap n g) (hne : a0 ≠ b0) (hga : n0 ≤ a0) (hgb : n0 ≤ b0) (hSO : Sta Z h0 "java/lang/Integer" "DigitOnes" "[B" (.ref dO)) (hSX : Sta Z h0 "java/lang/Integer" "DigitTens" "[B" (.ref dX)) (hAO : own_Ab Z h0 dO 100 own_d1) (hAX : own_Ab Z h0 dX 100 own_d2) (hnO : dO ≠ b0) (hnX : dX ≠ b0) (hmO : dO ≠ a0) (hmX : dX ≠ a0) (hbd : n ≤ cap ∧ n + (own_sz y.toInt) ≤ 70 ∧ cap ≤ 140) (hcp : 0 < cap) (hSC : Sta Z h0 "java/lang/String" "COMPACT_STRINGS" "Z" (.int wC)) (hwC : ¬ wC = (0 : Int32)) :
   own_Met l mN31 jdk_68_method_33_code 5 (some (.object "java/lang/AbstractStringBuilder")) ws ({ frames := 4, cells := 1, slots := 140, locals := 69 } : Room) #[(.ref a0), (.long y)] Z h0 (QrmApJ Z a0 b0 cap n g y dO dX wC h0 n0) := by
 refine MetFree.of_bodySF (plainFor_of_name pn_AbstractStringBuilder) hisR ?_
 intro p e s m args below meth c s₁ Bd hml0 hP hK
 obtain ⟨rfl, hZ, hh⟩ := hP
 have hml : c.maxLocals = 5 := hml0
 obtain ⟨hx, hby, hown, hnm, X0, e0⟩ := own_start Bd hml0 hh
 have N0 := Fr.nil n0
 have Y := @oY _ _ _ hby D_rmApJ
 obtain ⟨P0, in0, pre0⟩ : ∃ P : State → Prop, (∀ tz, oS p e below s₁ (mkF m 0 #[rv a0, .val (.long y), .second, .unset, .unset] []) tz → P tz) ∧ ∀ tz, P tz → Steps p.tables e below (s₁.setTop (entryFrame m #[(.ref a0), (.long y)] 5)) tz := ⟨_, fun _ kz => kz, fun tz kz => castTop (by first | (simp [entryFrame, mkF, argsToLocals, Value.category]; done) | rfl) kz⟩
 obtain ⟨T1, X1, e1, st1⟩ := getF X0 hx hZ hown (host := "") (Or.inl (oq hw 89 rfl)) Via.refl e0 hD.N (g := (mkF m 1 #[rv a0, .val (.long y), .second, .unset, .unset] [(.ref a0)])) rfl rfl (Y 1 rfl)
 obtain ⟨_, T2, Lc2, X2, hQ2, st2⟩ := own_callS (W := 1) (y := mN26) X1 hx hZ hown (oq hw 172 rfl) (oq hw 173 rfl) (oq hw 174 rfl) (oq hw 175 rfl) (by decide) (rmLS l Z av0 hw [] y h0 n0 Z0 ) (by decide) (by decide) (g := (mkF m 7 #[rv a0, .val (.long y), .second, iv (own_n n), .unset] [(.long y), (.int (own_n n))])) rfl (by rw [hml]; rfl) (argsL := [(.long y)]) (rest := [(.int (own_n n))]) (lenOf pd__J_I rfl) rfl (Y 5 rfl) rfl e1 (by decide : 0 + 0 ≤ _) (by decide : 0 + 0 ≤ _)
 obtain ⟨rfl, N2q, hh2⟩ := hQ2
 have N2 := Fr.app N0 N2q
 have e2 : T2.heap = h0 := hh2
 obtain ⟨_, T3, Lc3, X3, hQ3, st3⟩ := own_privateS (W := 0) (y := mN7) X2 hx hZ hown (oq hw 91 rfl) (oq hw 94 rfl) (oq hw 93 rfl) (oq hw 92 rfl) (oq hw 95 rfl) (oq hw 57 rfl) (by decide) (rmEC l Z av0 hw [] a0 b0 cap n g (n + (own_sz y.toInt)) h0 n0 Z0 (own_Bd.mk hD.E hD.C hD.V hD.N hD.A) hne hga hgb ⟨by omega, by omega, by omega⟩) (by decide) (by decide) hD.E (g := (mkF m 16 #[rv a0, .val (.long y), .second, iv (own_n n), iv ((own_n (n + (own_sz y.toInt))))] [(.int (own_n (n + (own_sz y.toInt)))), (.ref a0)])) rfl (by rw [hml]; rfl) (argsL := [(.int (own_n (n + (own_sz y.toInt))))]) (rest := []) (lenOf pd__I_V rfl) rfl (Y 10 rfl) rfl e2 (by decide : 0 + 1 ≤ _) (by decide : 0 + 140 ≤ _)
 obtain ⟨rfl, N3q, b3, gn3, K3, Db3, ga3, gb3⟩ := hQ3
 have N3 := Fr.app N2 N3q
 have e3 : T3.heap = T3.heap := rfl
 have ne_a0_b3 : a0 ≠ b3 := own_or gb3 hne (Nat.ne_of_lt ∘ Nat.lt_of_lt_of_le hD.E.lt)
 have ne_dO_b3 : dO ≠ b3 := own_or gb3 hnO (Nat.ne_of_lt ∘ Nat.lt_of_lt_of_le hAO.lt)
 have ne_dX_b3 : dX ≠ b3 := own_or gb3 hnX (Nat.ne_of_lt ∘ Nat.lt_of_lt_of_le hAX.lt)
 have ge_b3 : n0 ≤ b3 := own_ge gb3 hgb Z0
 have Zk3 : n0 ≤ T3.heap.size := Nat.le_trans Z0 K3.1
 have Kk3 : Keep h0 T3.heap [a0, b0] := (Keep.refl h0 [a0, b0]).trans K3 (allS (Or.inl (List.mem_of_getElem? (i := 0) rfl)) all0)
 have f4 := (own_stak hSC K3 (allS (own_exns hD.E) all0))
 obtain ⟨_, T5, Lc5, X5, hQ5, st5⟩ := own_virtual (W := 0) (y := mN15) (z := mN15) X3 hx hZ hown (oq hw 153 rfl) (oq hw 154 rfl) (notFace_of_selects (args := #[]) (mvT hZ (oq hw 156 rfl))) (oq hw 156 rfl) (oq hw 155 rfl) (oq hw 157 rfl) (oq hw 57 rfl) (by decide) (rmIL l Z av0 hw [] a0 b3 (own_gr cap (n + (own_sz y.toInt))) n gn3 wC T3.heap n0 Zk3 (own_Bd.mk Db3.E Db3.C Db3.V Db3.N Db3.A) f4 hwC) (by decide) (by decide) Db3.E (g := (mkF m 20 #[rv a0, .val (.long y), .second, iv (own_n n), iv ((own_n (n + (own_sz y.toInt))))] [(.ref a0)])) rfl (by rw [hml]; rfl) (argsL := []) (rest := []) (lenOf pd__Z rfl) rfl (Y 12 rfl) rfl e3 (by decide : 1 + 0 ≤ _) (by decide : 140 + 0 ≤ _)
 obtain ⟨rfl, N5q, hh5⟩ := hQ5
 have N5 := Fr.app N3 N5q
 have e5 : T5.heap = T3.heap := hh5
 obtain ⟨T6, X6, e6, st6⟩ := getF X5 hx hZ hown (host := "") (Or.inl (oq hw 61 rfl)) Via.refl e5 Db3.V (g := (mkF m 30 #[rv a0, .val (.long y), .second, iv (own_n n), iv ((own_n (n + (own_sz y.toInt))))] [(.ref a0), (.int (own_n (n + (own_sz y.toInt)))), (.long y)])) rfl rfl (Y 17 rfl)
 have f7 := (own_stak hSO K3 (allS (own_exns hD.E) all0))
 have f8 := (own_stak hSX K3 (allS (own_exns hD.E) all0))
 have f9 := (hAO.keep K3 (ninS hmO nin0))
 have f10 := (hAX.keep K3 (ninS hmX nin0))
 obtain ⟨_, T11, Lc11, X11, hQ11, st11⟩ := own_callS (W := 0) (y := mN28) X6 hx hZ hown (oq hw 177 rfl) (oq hw 178 rfl) (oq hw 174 rfl) (oq hw 179 rfl) (by decide) (rmGL l Z av0 hw [] y (n + (own_sz y.toInt)) b3 (own_gr cap (n + (own_sz y.toInt))) gn3 dO dX T3.heap n0 Zk3 Db3.A f7 f8 f9 f10 ne_dO_b3 ne_dX_b3 ge_b3 ⟨Nat.le_add_left _ _, own_grge _ _, Nat.lt_of_le_of_lt (own_grlt hbd.2.1 hbd.2.2) (by decide)⟩) (by decide) (by decide) (g := (mkF m 33 #[rv a0, .val (.long y), .second, iv (own_n n), iv ((own_n (n + (own_sz y.toInt))))] [(.ref b3), (.int (own_n (n + (own_sz y.toInt)))), (.long y)])) rfl (by rw [hml]; rfl) (argsL := [(.long y), (.int (own_n (n + (own_sz y.toInt)))), (.ref b3)]) (rest := []) (lenOf pd__JIA_B_I rfl) rfl (Y 18 rfl) rfl e6 (by decide : 1 + 0 ≤ _) (by decide : 140 + 0 ≤ _)
 obtain ⟨zr11, rfl, N11q, K11, gm11, V11, ua11, ub11⟩ := hQ11
 have N11 := Fr.app N5 N11q
 have e11 : T11.heap = T11.heap := rfl
 have Zk11 : n0 ≤ T11.heap.size := Nat.le_trans Zk3 K11.1
 have Kk11 : Keep h0 T11.heap [a0, b0] := Kk3.trans K11 (allS (own_kor gb3) all0)
 have f12 := (Db3.N.keep K11 (ninS ne_a0_b3 nin0))
 have f13 := (Db3.E.keep K11)
 obtain ⟨T14, h14, X14, e14, W14, st14⟩ := putF X11 hx hZ hown (host := "") (Or.inl (oq hw 89 rfl)) Via.refl e11 f12 f13 (Or.inl (oq hw 90 rfl)) (oq hw 48 rfl) (ty := .int) (by decide) rfl rfl (g := (mkF m 55 #[rv a0, .val (.long y), .second, iv (own_n n), iv ((own_n (n + (own_sz y.toInt))))] [(.int (own_n (n + (own_sz y.toInt)))), (.ref a0)])) rfl rfl (Y 23 rfl)
 have N14 := Fr.snoc X14 N11 hga
 have Z14 : n0 ≤ h14.size := Nat.le_trans Zk11 (Nat.le_of_eq W14.size.symm)
 have K14 : Keep h0 h14 [a0, b0] := Kk11.wr W14 (Or.inl (List.mem_of_getElem? (i := 0) rfl))
 have Fw14 := f12.same W14
 have S15 : ∀ tz, oS p e below T14 (mkF m 59 #[rv a0, .val (.long y), .second, iv (own_n n), iv ((own_n (n + (own_sz y.toInt))))] [(.ref a0)]) tz → P0 tz := fun tz kz => in0 tz (by
  refine XS.aloadN X0.here hx rfl (Y 0 rfl) rfl rfl ?_
  refine st1 _ ?_
  refine XS.istoreN X1.here hx rfl (Y 2 rfl) rfl (l' := #[rv a0, .val (.long y), .second, iv (own_n n), .unset]) rfl ?_
  refine XS.iloadN X1.here hx rfl (Y 3 rfl) rfl ?_
  refine XT.lloadN X1.here hx rfl (Y 4 rfl) rfl ?_
  refine st2 _ ?_
  refine XS.iadd X2.here hx rfl (Y 6 rfl) rfl ?_
  show oS p e below T2 (mkF m 11 #[rv a0, .val (.long y), .second, iv (own_n n), .unset] [(.int ((own_n n) + (own_n (own_sz y.toInt))))]) _
  rw [own_nplus]
  show oS p e below T2 (mkF m 11 #[rv a0, .val (.long y), .second, iv (own_n n), .unset] [(.int (own_n (n + (own_sz y.toInt))))]) _
  refine XS.istore X2.here hx rfl (Y 7 rfl) rfl (l' := #[rv a0, .val (.long y), .second, iv (own_n n), iv ((own_n (n + (own_sz y.toInt))))]) rfl ?_
  refine XS.aloadN X2.here hx rfl (Y 8 rfl) rfl rfl ?_
  show oS p e below T2 (mkF m 14 #[rv a0, .val (.long y), .second, iv (own_n n), iv ((own_n (n + (own_sz y.toInt))))] [(.ref a0)]) _
  refine XS.iload X2.here hx rfl (Y 9 rfl) rfl ?_
  refine st3 _ ?_
  refine XS.aloadN X3.here hx rfl (Y 11 rfl) rfl rfl ?_
  refine st5 _ ?_
  refine XS.ifNo X5.here hx rfl (Y 13 rfl) rfl (XT.i0_eq_f (by decide)) ?_
  refine XT.lloadN X5.here hx rfl (Y 14 rfl) rfl ?_
  refine XS.iload X5.here hx rfl (Y 15 rfl) rfl ?_
  refine XS.aloadN X5.here hx rfl (Y 16 rfl) rfl rfl ?_
  refine st6 _ ?_
  refine st11 _ ?_
  show oS p e below T11 (mkF m 36 #[rv a0, .val (.long y), .second, iv (own_n n), iv ((own_n (n + (own_sz y.toInt))))] [(.int zr11)]) _
  refine XT.pop X11.here hx rfl (Y 19 rfl) rfl rfl ?_
  refine XS.goto X11.here hx rfl (pc0 := 37) (pc' := 52) rfl (Y 20 rfl) (by decide) (by decide) ?_
  refine XS.aloadN X11.here hx rfl (Y 21 rfl) rfl rfl ?_
  refine XS.iload X11.here hx rfl (Y 22 rfl) rfl ?_
  refine st14 _ ?_
  refine XS.aloadN X14.here hx rfl (Y 24 rfl) rfl rfl ?_
  exact kz)
 obtain ⟨fs, hr, hrun, hended, hW, hsame⟩ := X14.leave (v := some (.ref a0)) (fun h => by rw [Bd.returns] at h; cases h)
 refine ⟨_, _, pre0 _ (S15 _ ?_), hrun, hended, _, _, rfl, ?_, ⟨_, rfl⟩, hW, hsame.mono (by decide) (by decide)⟩
 · jvm_step X14.here [X14.here.top, hx, (Y 25 rfl), X14.method', Bd.returns, Value.isRef, FieldType.isReference]
   first | (intro acts; rw [hr _ acts rfl rfl rfl]) | rw [hr _ _ rfl rfl rfl]
   exact Steps.refl _
 have f16 := (f13.wr W14)
 have f17 := ((Db3.C.keep K11 (ninS ne_a0_b3 nin0)).other W14 (Or.inr (slot_ne (Or.inl (oq hw 64 rfl)) (Or.inl (oq hw 90 rfl)) (by decide) (t := .byte) (t' := .int) (by decide) (by decide))))
 have f18 := ((Db3.V.keep K11 (ninS ne_a0_b3 nin0)).other W14 (Or.inr (slot_ne (Or.inl (oq hw 62 rfl)) (Or.inl (oq hw 90 rfl)) (by decide) (t := (.array .byte)) (t' := .int) (by decide) (by decide))))
 have f19 := (V11.other W14 (Ne.symm ne_a0_b3))
 · show QrmApJ Z a0 b0 cap n g y dO dX wC h0 n0 _ T14.heap _
   rw [e14]
   exact ⟨rfl, N14, b3, _, K14, (own_Bd.mk f16 f17 f18 Fw14 f19), fun i hi => (ua11 i (by omega)).trans (ga3 i (by omega)), fun i hi => by have q := ub11 i hi; rwa [show n + (own_sz y.toInt) - (own_sz y.toInt) = n by omega] at q, gb3⟩
theorem D_rmBpJ : oL jdk_67_method_16_code [(0, .aload_n 0, 1), (1, .lload_n 1, 1), (2, .invokespecial 56, 3), (5, .pop, 1), (6, .aload_n 0, 1), (7, .areturn, 1)] := by decide +kernel
theorem pd__J_Ljava_lang_AbstractStringBuilder_ : parseMethodDescriptor "(J)Ljava/lang/AbstractStringBuilder;" = some ⟨[.long], some (.object "java/lang/AbstractStringBuilder")⟩ := by decide +kernel
def QrmBpJ (Z : State) (a0 : Addr) (b0 : Addr) (cap : Nat) (n : Nat) (g : Nat → Int32) (y : Int64) (dO : Addr) (dX : Addr) (wC : Int32) (h0 : Heap) (n0 : Nat) (v : Option Value) (h : Heap) (L : List Loc) : Prop := v = some (.ref a0) ∧ Fr n0 L ∧ ∃ (b : Addr) (gn : Nat → Int32), Keep h0 h [a0, b0] ∧ own_Bd Z h a0 b (own_gr cap (n + (own_sz y.toInt))) (n + (own_sz y.toInt)) gn ∧ (∀ i, i < n → gn i = g i) ∧ (∀ i, i < (own_sz y.toInt) → gn (n + i) = (own_num y.toInt) i) ∧ (b = b0 ∨ h0.size ≤ b)
theorem rmBpJ (l : Launch) (Z : State) (av0 : Array Value) (hw : ∀ d ∈ tables_1, d.before av0 Z = true) (ws : List Jvm.Cond) (a0 : Addr) (b0 : Addr) (cap : Nat) (n : Nat) (g : Nat → Int32) (y : Int64) (dO : Addr) (dX : Addr) (wC : Int32) (h0 : Heap) (n0 : Nat) (Z0 : n0 ≤ h0.size) (hD : own_Bd Z h0 a0 b0 cap n g) (hne : a0 ≠ b0) (hga : n0 ≤ a0) (hgb : n0 ≤ b0) (hSO : Sta Z h0 "java/lang/Integer" "DigitOnes" "[B" (.ref dO)) (hSX : Sta Z h0 "java/lang/Integer" "DigitTens" "[B" (.ref dX)) (hAO : own_Ab Z h0 dO 100 own_d1) (hAX : own_Ab Z h0 dX 100 own_d2) (hnO : dO ≠ b0) (hnX : dX ≠ b0) (hmO : dO ≠ a0) (hmX : dX ≠ a0) (hbd : n ≤ cap ∧ n + (own_sz y.toInt) ≤ 70 ∧ cap ≤ 140) (hcp : 0 < cap) (hSC : Sta Z h0 "java/lang/String" "COMPACT_STRINGS" "Z" (.int wC)) (hwC : ¬ wC = (0 : Int32)) :
   own_Met l mN32 jdk_67_method_16_code 3 (some (.object "java/lang/StringBuilder")) ws ({ frames := 5, cells := 1, slots := 140, locals := 85 } : Room) #[(.ref a0), (.long y)] Z h0 (QrmBpJ Z a0 b0 cap n g y dO dX wC h0 n0) := by
 refine MetFree.of_bodySF (plainFor_of_name pn_StringBuilder) hisR ?_
 intro p e s m args below meth c s₁ Bd hml0 hP hK
 obtain ⟨rfl, hZ, hh⟩ := hP
 have hml : c.maxLocals = 3 := hml0
 obtain ⟨hx, hby, hown, hnm, X0, e0⟩ := own_start Bd hml0 hh
 have N0 := Fr.nil n0
 have Y := @oY _ _ _ hby D_rmBpJ
 obtain ⟨P0, in0, pre0⟩ : ∃ P : State → Prop, (∀ tz, oS p e below s₁ (mkF m 0 #[rv a0, .val (.long y), .second] []) tz → P tz) ∧ ∀ tz, P tz → Steps p.tables e below (s₁.setTop (entryFrame m #[(.ref a0), (.long y)] 3)) tz := ⟨_, fun _ kz => kz, fun tz kz => castTop (by first | (simp [entryFrame, mkF, argsToLocals, Value.category]; done) | rfl) kz⟩
 obtain ⟨_, T1, Lc1, X1, hQ1, st1⟩ := own_super (W := 0) (y := mN31) (z := mN7) (K := "java/lang/StringBuilder") X0 hx hZ hown (oq hw 168 rfl) rfl (oq hw 94 rfl) (oq hw 169 rfl) (oq hw 73 rfl) (oq hw 171 rfl) (oq hw 57 rfl) (by decide) (by decide) (rmApJ l Z av0 hw [] a0 b0 cap n g y dO dX wC h0 n0 Z0 hD hne hga hgb hSO hSX hAO hAX hnO hnX hmO hmX hbd hcp hSC hwC) (by decide) (by decide) (Ins.self hD.E) (g := (mkF m 2 #[rv a0, .val (.long y), .second] [(.long y), (.ref a0)])) rfl (by rw [hml]; rfl) (argsL := [(.long y)]) (rest := []) (lenOf pd__J_Ljava_lang_AbstractStringBuilder_ rfl) rfl (Y 2 rfl) rfl e0 (by decide : 0 + 1 ≤ _) (by decide : 0 + 140 ≤ _)
 obtain ⟨rfl, N1q, b1, gn1, K1, Db1, ga1, gc1, gb1⟩ := hQ1
 have N1 := Fr.app N0 N1q
 have e1 : T1.heap = T1.heap := rfl
 have ge_b1 : n0 ≤ b1 := own_ge gb1 hgb Z0
 have Zk1 : n0 ≤ T1.heap.size := Nat.le_trans Z0 K1.1
 have Kk1 : Keep h0 T1.heap [a0, b0] := (Keep.refl h0 [a0, b0]).trans K1 (allS (Or.inl (List.mem_of_getElem? (i := 0) rfl)) (allS (Or.inl (List.mem_of_getElem? (i := 1) rfl)) all0))
 have S2 : ∀ tz, oS p e below T1 (mkF m 7 #[rv a0, .val (.long y), .second] [(.ref a0)]) tz → P0 tz := fun tz kz => in0 tz (by
  refine XS.aloadN X0.here hx rfl (Y 0 rfl) rfl rfl ?_
  refine XT.lloadN X0.here hx rfl (Y 1 rfl) rfl ?_
  refine st1 _ ?_
  refine XT.pop X1.here hx rfl (Y 3 rfl) rfl rfl ?_
  refine XS.aloadN X1.here hx rfl (Y 4 rfl) rfl rfl ?_
  exact kz)
 obtain ⟨fs, hr, hrun, hended, hW, hsame⟩ := X1.leave (v := some (.ref a0)) (fun h => by rw [Bd.returns] at h; cases h)
 refine ⟨_, _, pre0 _ (S2 _ ?_), hrun, hended, _, _, rfl, ?_, ⟨_, rfl⟩, hW, hsame.mono (by decide) (by decide)⟩
 · jvm_step X1.here [X1.here.top, hx, (Y 5 rfl), X1.method', Bd.returns, Value.isRef, FieldType.isReference]
   first | (intro acts; rw [hr _ acts rfl rfl rfl]) | rw [hr _ _ rfl rfl rfl]
   exact Steps.refl _
 · show QrmBpJ Z a0 b0 cap n g y dO dX wC h0 n0 _ T1.heap _
   rw [e1]
   exact ⟨rfl, N1, b1, _, Kk1, Db1, ga1, gc1, gb1⟩
theorem D_rmPcin : oL jdk_41_method_11_code [(0, .iload_n 0, 1), (1, .ifCond .lt 8, 3), (4, .iload_n 0, 1), (5, .iload_n 1, 1), (6, .if_icmp .lt 10, 3), (16, .iload_n 0, 1), (17, .ireturn, 1)] := by decide +kernel
theorem pn_Preconditions : plainName "jdk/internal/util/Preconditions" = true := by first | (simp [plainName, overriddenIn]; done) | decide +kernel
def QrmPcin (Z : State) (p0 : Int32) (p1 : Int32) (h0 : Heap) (n0 : Nat) (v : Option Value) (h : Heap) (L : List Loc) : Prop := v = some (.int p0) ∧ Fr n0 L ∧ h = h0
theorem rmPcin (l : Launch) (Z : State) (av0 : Array Value) (hw : ∀ d ∈ tables_1, d.before av0 Z = true) (ws : List Jvm.Cond) (p0 : Int32) (p1 : Int32) (h0 : Heap) (n0 : Nat) (Z0 : n0 ≤ h0.size) (h1 : ¬ p0 < (0 : Int32)) (h2 : p0 < p1) :
   own_Met l mN33 jdk_41_method_11_code 3 (some .int) ws ({ frames := 0, cells := 0, slots := 0, locals := 0 } : Room) #[(.int p0), (.int p1), .null] Z h0 (QrmPcin Z p0 p1 h0 n0) := by
 refine MetFree.of_bodySF (plainFor_of_name pn_Preconditions) hisR ?_
 intro p e s m args below meth c s₁ Bd hml0 hP hK
 obtain ⟨rfl, hZ, hh⟩ := hP
 have hml : c.maxLocals = 3 := hml0
 obtain ⟨hx, hby, hown, hnm, X0, e0⟩ := own_start Bd hml0 hh
 have N0 := Fr.nil n0
 have Y := @oY _ _ _ hby D_rmPcin
 obtain ⟨P0, in0, pre0⟩ : ∃ P : State → Prop, (∀ tz, oS p e below s₁ (mkF m 0 #[iv p0, iv p1, .val .null] []) tz → P tz) ∧ ∀ tz, P tz → Steps p.tables e below (s₁.setTop (entryFrame m #[(.int p0), (.int p1), .null] 3)) tz := ⟨_, fun _ kz => kz, fun tz kz => castTop (by first | (simp [entryFrame, mkF, argsToLocals, Value.category]; done) | rfl) kz⟩
 have S1 : ∀ tz, oS p e below s₁ (mkF m 17 #[iv p0, iv p1, .val .null] [(.int p0)]) tz → P0 tz := fun tz kz => in0 tz (by
  refine XS.iloadN X0.here hx rfl (Y 0 rfl) rfl ?_
  refine XS.ifNo X0.here hx rfl (Y 1 rfl) rfl (XT.i0_lt_f h1) ?_
  refine XS.iloadN X0.here hx rfl (Y 2 rfl) rfl ?_
  refine XS.iloadN X0.here hx rfl (Y 3 rfl) rfl ?_
  refine XS.icmpYes X0.here hx rfl (pc0 := 6) (pc' := 16) rfl (Y 4 rfl) rfl (XT.ii_lt_t h2) (by decide) (by decide) ?_
  refine XS.iloadN X0.here hx rfl (Y 5 rfl) rfl ?_
  exact kz)
 obtain ⟨fs, hr, hrun, hended, hW, hsame⟩ := X0.leave (v := some (.int p0)) (fun h => by rw [Bd.returns] at h; cases h)
 refine ⟨_, _, pre0 _ (S1 _ ?_), hrun, hended, _, _, rfl, ?_, ⟨_, rfl⟩, hW, hsame.mono (by decide) (by decide)⟩
 · exact retI X0 hx Bd.returns (Y 6 rfl) hr
 · show QrmPcin Z p0 p1 h0 n0 _ s₁.heap _
   rw [e0]
   exact ⟨rfl, N0, rfl⟩
def Qsci (Z : State) (p0 p1 : Int32) (h0 : Heap) (n0 : Nat) (v : Option Value) (h : Heap) (L : List Loc) : Prop := v = none ∧ Fr n0 L ∧ h = h0
theorem D_rmScin : oL jdk_42_method_155_code [(0, .iload_n 0, 1), (1, .iload_n 1, 1), (2, .getstatic 1053, 3), (5, .invokestatic 1059, 3), (8, .pop, 1), (9, .return_, 1)] := by decide +kernel
theorem pd__IILjava_util_function_BiFunction_I : parseMethodDescriptor "(IILjava/util/function/BiFunction;)I" = some ⟨[.int, .int, (.object "java/util/function/BiFunction")], some .int⟩ := by decide +kernel
theorem rmScin (l : Launch) (Z : State) (av0 : Array Value) (hw : ∀ d ∈ tables_1, d.before av0 Z = true) (ws : List Jvm.Cond) (p0 : Int32) (p1 : Int32) (h0 : Heap) (n0 : Nat) (Z0 : n0 ≤ h0.size) (hF : Sta Z h0 "jdk/internal/util/Preconditions" "SIOOBE_FORMATTER" "Ljava/util/function/BiFunction;" .null) (h1 : ¬ p0 < (0 : Int32)) (h2 : p0 < p1) :
   own_Met l mN34 jdk_42_method_155_code 2 none ws ({ frames := 1, cells := 0, slots := 0, locals := 14 } : Room) #[(.int p0), (.int p1)] Z h0 (Qsci Z p0 p1 h0 n0) := by
 refine MetFree.of_bodySF (plainFor_of_name pn_String) hisR ?_
 intro p e s m args below meth c s₁ Bd hml0 hP hK
 obtain ⟨rfl, hZ, hh⟩ := hP
 have hml : c.maxLocals = 2 := hml0
 obtain ⟨hx, hby, hown, hnm, X0, e0⟩ := own_start Bd hml0 hh
 have N0 := Fr.nil n0
 have Y := @oY _ _ _ hby D_rmScin
 obtain ⟨P0, in0, pre0⟩ : ∃ P : State → Prop, (∀ tz, oS p e below s₁ (mkF m 0 #[iv p0, iv p1] []) tz → P tz) ∧ ∀ tz, P tz → Steps p.tables e below (s₁.setTop (entryFrame m #[(.int p0), (.int p1)] 2)) tz := ⟨_, fun _ kz => kz, fun tz kz => castTop (by first | (simp [entryFrame, mkF, argsToLocals, Value.category]; done) | rfl) kz⟩
 obtain ⟨T1, X1, e1, st1⟩ := getS2 X0 hx hZ hown (host := "") (Or.inl (oq hw 246 rfl)) Via.refl e0 hF (g := (mkF m 2 #[iv p0, iv p1] [(.int p1), (.int p0)])) rfl (Y 2 rfl)
 obtain ⟨_, T2, Lc2, X2, hQ2, st2⟩ := own_callS (W := 0) (y := mN33) X1 hx hZ hown (oq hw 248 rfl) (oq hw 249 rfl) (oq hw 247 rfl) (oq hw 250 rfl) (by decide) (rmPcin l Z av0 hw [] p0 p1  h0 n0 Z0 h1 h2) (by decide) (by decide) (g := (mkF m 5 #[iv p0, iv p1] [.null, (.int p1), (.int p0)])) rfl (by rw [hml]; rfl) (argsL := [(.int p0), (.int p1), .null]) (rest := []) (lenOf pd__IILjava_util_function_BiFunction_I rfl) rfl (Y 3 rfl) rfl e1 (by decide : 0 + 0 ≤ _) (by decide : 0 + 0 ≤ _)
 obtain ⟨rfl, N2q, hh2⟩ := hQ2
 have N2 := Fr.app N0 N2q
 have e2 : T2.heap = h0 := hh2
 have S3 : ∀ tz, oS p e below T2 (mkF m 9 #[iv p0, iv p1] []) tz → P0 tz := fun tz kz => in0 tz (by
  refine XS.iloadN X0.here hx rfl (Y 0 rfl) rfl ?_
  refine XS.iloadN X0.here hx rfl (Y 1 rfl) rfl ?_
  refine st1 _ ?_
  refine st2 _ ?_
  refine XT.pop X2.here hx rfl (Y 4 rfl) rfl rfl ?_
  exact kz)
 obtain ⟨fs, hr, hrun, hended, hW, hsame⟩ := X2.leave (v := none) (fun _ => rfl)
 refine ⟨_, _, pre0 _ (S3 _ ?_), hrun, hended, _, _, rfl, ?_, ⟨_, rfl⟩, hW, hsame.mono (by decide) (by decide)⟩
 · exact X2.returnOut hx Bd.returns (Y 5 rfl) hr
 · show Qsci Z p0 p1 h0 n0 _ T2.heap _
   rw [e2]
   exact ⟨rfl, N2, rfl⟩
theorem D_rmPcir : oL jdk_41_method_11_code [(0, .iload_n 0, 1), (1, .ifCond .lt 8, 3), (4, .iload_n 0, 1), (5, .iload_n 1, 1), (6, .if_icmp .lt 10, 3), (16, .iload_n 0, 1), (17, .ireturn, 1)] := by decide +kernel
def QrmPcir (Z : State) (p0 : Int32) (p1 : Int32) (aF : Addr) (h0 : Heap) (n0 : Nat) (v : Option Value) (h : Heap) (L : List Loc) : Prop := v = some (.int p0) ∧ Fr n0 L ∧ h = h0
theorem rmPcir (l : Launch) (Z : State) (av0 : Array Value) (hw : ∀ d ∈ tables_1, d.before av0 Z = true) (ws : List Jvm.Cond) (p0 : Int32) (p1 : Int32) (aF : Addr) (h0 : Heap) (n0 : Nat) (Z0 : n0 ≤ h0.size) (h1 : ¬ p0 < (0 : Int32)) (h2 : p0 < p1) :
   own_Met l mN33 jdk_41_method_11_code 3 (some .int) ws ({ frames := 0, cells := 0, slots := 0, locals := 0 } : Room) #[(.int p0), (.int p1), (.ref aF)] Z h0 (QrmPcir Z p0 p1 aF h0 n0) := by
 refine MetFree.of_bodySF (plainFor_of_name pn_Preconditions) hisR ?_
 intro p e s m args below meth c s₁ Bd hml0 hP hK
 obtain ⟨rfl, hZ, hh⟩ := hP
 have hml : c.maxLocals = 3 := hml0
 obtain ⟨hx, hby, hown, hnm, X0, e0⟩ := own_start Bd hml0 hh
 have N0 := Fr.nil n0
 have Y := @oY _ _ _ hby D_rmPcir
 obtain ⟨P0, in0, pre0⟩ : ∃ P : State → Prop, (∀ tz, oS p e below s₁ (mkF m 0 #[iv p0, iv p1, rv aF] []) tz → P tz) ∧ ∀ tz, P tz → Steps p.tables e below (s₁.setTop (entryFrame m #[(.int p0), (.int p1), (.ref aF)] 3)) tz := ⟨_, fun _ kz => kz, fun tz kz => castTop (by first | (simp [entryFrame, mkF, argsToLocals, Value.category]; done) | rfl) kz⟩
 have S1 : ∀ tz, oS p e below s₁ (mkF m 17 #[iv p0, iv p1, rv aF] [(.int p0)]) tz → P0 tz := fun tz kz => in0 tz (by
  refine XS.iloadN X0.here hx rfl (Y 0 rfl) rfl ?_
  refine XS.ifNo X0.here hx rfl (Y 1 rfl) rfl (XT.i0_lt_f h1) ?_
  refine XS.iloadN X0.here hx rfl (Y 2 rfl) rfl ?_
  refine XS.iloadN X0.here hx rfl (Y 3 rfl) rfl ?_
  refine XS.icmpYes X0.here hx rfl (pc0 := 6) (pc' := 16) rfl (Y 4 rfl) rfl (XT.ii_lt_t h2) (by decide) (by decide) ?_
  refine XS.iloadN X0.here hx rfl (Y 5 rfl) rfl ?_
  exact kz)
 obtain ⟨fs, hr, hrun, hended, hW, hsame⟩ := X0.leave (v := some (.int p0)) (fun h => by rw [Bd.returns] at h; cases h)
 refine ⟨_, _, pre0 _ (S1 _ ?_), hrun, hended, _, _, rfl, ?_, ⟨_, rfl⟩, hW, hsame.mono (by decide) (by decide)⟩
 · exact retI X0 hx Bd.returns (Y 6 rfl) hr
 · show QrmPcir Z p0 p1 aF h0 n0 _ s₁.heap _
   rw [e0]
   exact ⟨rfl, N0, rfl⟩
theorem D_rmScir : oL jdk_42_method_155_code [(0, .iload_n 0, 1), (1, .iload_n 1, 1), (2, .getstatic 1053, 3), (5, .invokestatic 1059, 3), (8, .pop, 1), (9, .return_, 1)] := by decide +kernel
theorem rmScir (l : Launch) (Z : State) (av0 : Array Value) (hw : ∀ d ∈ tables_1, d.before av0 Z = true) (ws : List Jvm.Cond) (p0 : Int32) (p1 : Int32) (aF : Addr) (h0 : Heap) (n0 : Nat) (Z0 : n0 ≤ h0.size) (hF : Sta Z h0 "jdk/internal/util/Preconditions" "SIOOBE_FORMATTER" "Ljava/util/function/BiFunction;" (.ref aF)) (h1 : ¬ p0 < (0 : Int32)) (h2 : p0 < p1) :
   own_Met l mN34 jdk_42_method_155_code 2 none ws ({ frames := 1, cells := 0, slots := 0, locals := 14 } : Room) #[(.int p0), (.int p1)] Z h0 (Qsci Z p0 p1 h0 n0) := by
 refine MetFree.of_bodySF (plainFor_of_name pn_String) hisR ?_
 intro p e s m args below meth c s₁ Bd hml0 hP hK
 obtain ⟨rfl, hZ, hh⟩ := hP
 have hml : c.maxLocals = 2 := hml0
 obtain ⟨hx, hby, hown, hnm, X0, e0⟩ := own_start Bd hml0 hh
 have N0 := Fr.nil n0
 have Y := @oY _ _ _ hby D_rmScir
 obtain ⟨P0, in0, pre0⟩ : ∃ P : State → Prop, (∀ tz, oS p e below s₁ (mkF m 0 #[iv p0, iv p1] []) tz → P tz) ∧ ∀ tz, P tz → Steps p.tables e below (s₁.setTop (entryFrame m #[(.int p0), (.int p1)] 2)) tz := ⟨_, fun _ kz => kz, fun tz kz => castTop (by first | (simp [entryFrame, mkF, argsToLocals, Value.category]; done) | rfl) kz⟩
 obtain ⟨T1, X1, e1, st1⟩ := getS2 X0 hx hZ hown (host := "") (Or.inl (oq hw 246 rfl)) Via.refl e0 hF (g := (mkF m 2 #[iv p0, iv p1] [(.int p1), (.int p0)])) rfl (Y 2 rfl)
 obtain ⟨_, T2, Lc2, X2, hQ2, st2⟩ := own_callS (W := 0) (y := mN33) X1 hx hZ hown (oq hw 248 rfl) (oq hw 249 rfl) (oq hw 247 rfl) (oq hw 250 rfl) (by decide) (rmPcir l Z av0 hw [] p0 p1 aF h0 n0 Z0 h1 h2) (by decide) (by decide) (g := (mkF m 5 #[iv p0, iv p1] [(.ref aF), (.int p1), (.int p0)])) rfl (by rw [hml]; rfl) (argsL := [(.int p0), (.int p1), (.ref aF)]) (rest := []) (lenOf pd__IILjava_util_function_BiFunction_I rfl) rfl (Y 3 rfl) rfl e1 (by decide : 0 + 0 ≤ _) (by decide : 0 + 0 ≤ _)
 obtain ⟨rfl, N2q, hh2⟩ := hQ2
 have N2 := Fr.app N0 N2q
 have e2 : T2.heap = h0 := hh2
 have S3 : ∀ tz, oS p e below T2 (mkF m 9 #[iv p0, iv p1] []) tz → P0 tz := fun tz kz => in0 tz (by
  refine XS.iloadN X0.here hx rfl (Y 0 rfl) rfl ?_
  refine XS.iloadN X0.here hx rfl (Y 1 rfl) rfl ?_
  refine st1 _ ?_
  refine st2 _ ?_
  refine XT.pop X2.here hx rfl (Y 4 rfl) rfl rfl ?_
  exact kz)
 obtain ⟨fs, hr, hrun, hended, hW, hsame⟩ := X2.leave (v := none) (fun _ => rfl)
 refine ⟨_, _, pre0 _ (S3 _ ?_), hrun, hended, _, _, rfl, ?_, ⟨_, rfl⟩, hW, hsame.mono (by decide) (by decide)⟩
 · exact X2.returnOut hx Bd.returns (Y 5 rfl) hr
 · show Qsci Z p0 p1 h0 n0 _ T2.heap _
   rw [e2]
   exact ⟨rfl, N2, rfl⟩
theorem rmSci (l : Launch) (Z : State) (av0 : Array Value) (hw : ∀ d ∈ tables_1, d.before av0 Z = true) (ws : List Jvm.Cond) (p0 p1 : Int32) (fm : Value) (h0 : Heap) (n0 : Nat) (Z0 : n0 ≤ h0.size) (hfm : fm.isRef = true) (hF : Sta Z h0 "jdk/internal/util/Preconditions" "SIOOBE_FORMATTER" "Ljava/util/function/BiFunction;" fm) (h1 : ¬ p0 < (0 : Int32)) (h2 : p0 < p1) :
    MetFree l mN34 (head1 (Jvm.Cond.code mN34 jdk_42_method_155_code 2 none :: ws) ({ frames := 1, cells := 0, slots := 0, locals := 14 } : Room)) (fun aU U => aU = #[(.int p0), (.int p1)] ∧ Z.Warmed39 U.vm ∧ U.heap = h0) (fun _ _ _ _ _ => True) (fun _ U oU U' => ∃ vU LU, oU = .returned vU ∧ Qsci Z p0 p1 h0 n0 vU U'.heap LU ∧ FrameEnd U oU U' LU ({ frames := 1, cells := 0, slots := 0, locals := 14 } : Room).cells ({ frames := 1, cells := 0, slots := 0, locals := 14 } : Room).slots) := by
  rcases ref_cases hfm with rfl | ⟨aF, rfl⟩
  · exact rmScin l Z av0 hw ws p0 p1 h0 n0 Z0 hF h1 h2
  · exact rmScir l Z av0 hw ws p0 p1 aF h0 n0 Z0 hF h1 h2
def own_abs (q : Int64) : Int64 := if q < 0 then -q else q
theorem own_Dq {y w : Int64} {j : Nat} (hw : w.toInt = ((10 ^ j : Nat) : Int)) : (y / w).toInt.natAbs = y.toInt.natAbs / 10 ^ j := by
  have hp : 0 < 10 ^ j := Nat.pow_pos (by decide)
  have q := c_ldiv y w _ hw (fun z => by rw [z, show (-1 : Int64).toInt = -1 from rfl] at hw; omega)
  generalize 10 ^ j = P at *
  by_cases h : 0 ≤ y.toInt
  · obtain ⟨a, ha⟩ := Int.eq_ofNat_of_zero_le h
    rw [q.1 h, ha, ← Int.natCast_ediv, Int.natAbs_natCast, Int.natAbs_natCast]
  · obtain ⟨a, ha⟩ := Int.eq_ofNat_of_zero_le (show 0 ≤ -y.toInt by omega)
    rw [q.2 (by omega), ha, ← Int.natCast_ediv, Int.natAbs_neg, Int.natAbs_natCast, show y.toInt.natAbs = a by omega]
theorem own_D0 {y w : Int64} {j : Nat} (hw : w.toInt = ((10 ^ j : Nat) : Int)) : (y / w = 0 ∧ ¬ w = 1) ↔ ¬ j < own_dg y.toInt.natAbs := by
  have e := own_Dq (y := y) hw
  have hp : 0 < 10 ^ j := Nat.pow_pos (by decide)
  have z : y / w = 0 ↔ (y / w).toInt.natAbs = 0 := by rw [← Int64.toInt_inj, show (0 : Int64).toInt = 0 from rfl]; omega
  have w1 : w = 1 ↔ (10 ^ j : Nat) = 1 := by rw [← Int64.toInt_inj, hw, show (1 : Int64).toInt = 1 from rfl]; omega
  rw [z, e, w1]
  have hg := own_dgpos y.toInt.natAbs
  by_cases j0 : j = 0
  · subst j0; simp; omega
  · have d := own_dglt (j := j) (N := y.toInt.natAbs) (by omega)
    have l1 : 10 ^ 1 ≤ 10 ^ j := Nat.pow_le_pow_right (by decide) (by omega)
    have dz : y.toInt.natAbs / 10 ^ j = 0 ↔ y.toInt.natAbs < 10 ^ j := by rw [Nat.div_eq_zero_iff]; omega
    rw [dz]; omega
theorem own_Dr {y w : Int64} {j : Nat} (hw : w.toInt = ((10 ^ j : Nat) : Int)) : (own_abs (y / w - y / w / 10 * 10)).toInt32 = own_n (y.toInt.natAbs / 10 ^ j % 10) := by
  have e := own_Dq (y := y) hw
  generalize y / w = Q at *
  have r := c_lrem Q 10 10 rfl
  generalize Q - Q / 10 * 10 = R at *
  have rA : (own_abs R).toInt.natAbs = R.toInt.natAbs ∧ 0 ≤ (own_abs R).toInt ∨ R.toInt < -10 := by
    unfold own_abs
    by_cases h : R < 0
    · rw [if_pos h]
      have := c_lneg R; have := rng64 R; have := rng64 (-R)
      rw [Int64.lt_iff_toInt_lt, show (0 : Int64).toInt = 0 from rfl] at h
      omega
    · rw [if_neg h]
      rw [Int64.lt_iff_toInt_lt, show (0 : Int64).toInt = 0 from rfl] at h
      omega
  have c := c_l2i (own_abs R)
  have r3 := rng32 (own_abs R).toInt32
  rw [← Int32.toInt_inj, own_nI (by omega), ← e]
  by_cases h : 0 ≤ Q.toInt
  · have := r.1 h; omega
  · have := r.2 (by omega); omega
theorem own_Dres {y w : Int64} {j P0 P Dg : Nat} (hw : w.toInt = ((10 ^ j : Nat) : Int)) (hD : Dg = own_dg y.toInt.natAbs) (hP : P = P0 + (Dg - (j + 1))) : (P + if y / w = 0 ∧ ¬ w = 1 then 0 else 1) = P0 + (Dg - j) := by
  have q := own_D0 (y := y) hw
  by_cases h : y / w = 0 ∧ ¬ w = 1
  · rw [if_pos h]; have := q.mp h; omega
  · rw [if_neg h]; have : j < own_dg y.toInt.natAbs := Nat.lt_of_not_le (fun z => h (q.mpr (by omega))); omega
theorem own_Dpre {y w : Int64} {j P0 P Dg n pp ng : Nat} {g : Nat → Int32} (hw : w.toInt = ((10 ^ j : Nat) : Int)) (hD : Dg = own_dg y.toInt.natAbs) (hP : P = P0 + (Dg - (j + 1))) (hs : own_sz y.toInt = Dg + ng) (h0 : P0 = pp + ng) (hbn : pp + own_sz y.toInt ≤ n)
    (hq : ∀ k, k < own_sz y.toInt → g (pp + k) = own_num y.toInt k) (hc : ¬ (y / w = 0 ∧ ¬ w = 1)) : P < n ∧ y.toInt.natAbs / 10 ^ j % 10 < 10 ∧ g P = own_n (48 + y.toInt.natAbs / 10 ^ j % 10) ∧ (own_abs (y / w - y / w / 10 * 10)).toInt32 = own_n (y.toInt.natAbs / 10 ^ j % 10) := by
  have q := own_D0 (y := y) hw
  have hj : j < Dg := Nat.lt_of_not_le (fun z => hc (q.mpr (by omega)))
  refine ⟨by omega, Nat.mod_lt _ (by decide), ?_, own_Dr hw⟩
  have e := hq (ng + (Dg - (j + 1))) (by omega)
  rw [hP, h0, Nat.add_assoc, e]
  unfold own_num
  rw [if_neg, hs, show Dg + ng - 1 - (ng + (Dg - (j + 1))) = j by omega]
  · rfl
  · rintro ⟨a, b⟩
    have hsz : own_sz y.toInt = Dg + 1 := by unfold own_sz; rw [if_pos a, hD]
    omega
def own_ca (x : Int32) : Int32 := nar .char (x &&& 255).toUInt32.toUInt16.toUInt32.toInt32
theorem own_nar {x : Int32} (h0 : 0 ≤ x.toInt) (h1 : x.toInt < 65536) : x.toUInt32.toUInt16.toUInt32.toInt32 = x := by
  have h := c_i2c x
  apply Int32.toInt_inj.mp; omega
theorem own_car (x : Int32) : 0 ≤ (own_ca x).toInt ∧ (own_ca x).toInt < 65536 := (c_i2c _).2
theorem own_ncc (x : Int32) : nar .char (own_ca x) = own_ca x := own_nar (own_car x).1 (own_car x).2
theorem own_cad {k : Nat} (h : k < 128) : own_ca (own_n k) = own_n k := by
  have q : (own_n k &&& 255).toInt = (own_n k).toInt % (2 ^ 8 : Nat) := c_mask _ 255 8 (by decide) (by decide)
  have e : own_n k &&& 255 = own_n k := by rw [← Int32.toInt_inj, q, own_nI (by omega)]; omega
  have hk := own_nI (i := k) (by omega)
  have i := own_nar (x := own_n k) (by omega) (by omega)
  unfold own_ca
  rw [e, i]; exact i
theorem own_cad' {k : Nat} (h : k < 128) : own_ca (own_n k) = (own_n k).toUInt32.toUInt16.toUInt32.toInt32 := by
  have hk := own_nI (i := k) (by omega)
  rw [own_cad h, own_nar (x := own_n k) (by omega) (by omega)]
theorem D_rmLC : oL jdk_43_method_2_code [(0, .iload_n 1, 1), (1, .aload_n 0, 1), (2, .arraylength, 1), (3, .invokestatic 9, 3), (6, .aload_n 0, 1), (7, .iload_n 1, 1), (8, .baload, 1), (9, .sipush 255, 3), (12, .iand, 1), (13, .i2c, 1), (14, .ireturn, 1)] := by decide +kernel
theorem pn_StringLatin1 : plainName "java/lang/StringLatin1" = true := by first | (simp [plainName, overriddenIn]; done) | decide +kernel
def QrmLC (Z : State) (b0 : Addr) (n : Nat) (g : Nat → Int32) (kk : Nat) (fm : Value) (h0 : Heap) (n0 : Nat) (v : Option Value) (h : Heap) (L : List Loc) : Prop := v = some (.int (own_ca (g kk))) ∧ Fr n0 L ∧ h = h0
theorem rmLC (l : Launch) (Z : State) (av0 : Array Value) (hw : ∀ d ∈ tables_1, d.before av0 Z = true) (ws : List Jvm.Cond) (b0 : Addr) (n : Nat) (g : Nat → Int32) (kk : Nat) (fm : Value) (h0 : Heap) (n0 : Nat) (Z0 : n0 ≤ h0.size) (hA : own_Ab Z h0 b0 n g) (hbd : kk < n ∧ n < 1000) (hfm : fm.isRef = true) (hFm : Sta Z h0 "jdk/internal/util/Preconditions" "SIOOBE_FORMATTER" "Ljava/util/function/BiFunction;" fm) :
   own_Met l mN35 jdk_43_method_2_code 2 (some .char) ws ({ frames := 2, cells := 0, slots := 0, locals := 27 } : Room) #[(.ref b0), (.int (own_n kk))] Z h0 (QrmLC Z b0 n g kk fm h0 n0) := by
 refine MetFree.of_bodySF (plainFor_of_name pn_StringLatin1) hisR ?_
 intro p e s m args below meth c s₁ Bd hml0 hP hK
 obtain ⟨rfl, hZ, hh⟩ := hP
 have hml : c.maxLocals = 2 := hml0
 obtain ⟨hx, hby, hown, hnm, X0, e0⟩ := own_start Bd hml0 hh
 have N0 := Fr.nil n0
 have Y := @oY _ _ _ hby D_rmLC
 obtain ⟨P0, in0, pre0⟩ : ∃ P : State → Prop, (∀ tz, oS p e below s₁ (mkF m 0 #[rv b0, iv (own_n kk)] []) tz → P tz) ∧ ∀ tz, P tz → Steps p.tables e below (s₁.setTop (entryFrame m #[(.ref b0), (.int (own_n kk))] 2)) tz := ⟨_, fun _ kz => kz, fun tz kz => castTop (by first | (simp [entryFrame, mkF, argsToLocals, Value.category]; done) | rfl) kz⟩
 obtain ⟨kc1, cl1, Ar1, qk1, Sz1, Ng1, Hs1, Gs1⟩ := id hA
 obtain ⟨_, T2, Lc2, X2, hQ2, st2⟩ := own_callS (W := 0) (y := mN34) X0 hx hZ hown (oq hw 243 rfl) (oq hw 244 rfl) (oq hw 1 rfl) (oq hw 245 rfl) (by decide) (rmSci l Z av0 hw [] (own_n kk) (own_n n) fm h0 n0 Z0 hfm hFm (own_nge (by omega)) (own_nlt (by omega) (by omega)).2) (by decide) (by decide) (g := (mkF m 3 #[rv b0, iv (own_n kk)] [(.int (own_n n)), (.int (own_n kk))])) rfl (by rw [hml]; rfl) (argsL := [(.int (own_n kk)), (.int (own_n n))]) (rest := []) (lenOf pd__II_V rfl) rfl (Y 3 rfl) rfl e0 (by decide : 0 + 0 ≤ _) (by decide : 0 + 0 ≤ _)
 obtain ⟨rfl, N2q, hh2⟩ := hQ2
 have N2 := Fr.app N0 N2q
 have e2 : T2.heap = h0 := hh2
 obtain ⟨kc3, cl3, Ar3, qk3, Sz3, Ng3, Hs3, Gs3⟩ := id hA
 have hin3 : ¬ ((own_n kk) < 0 ∨ cl3.slots.size ≤ ((own_n kk)).toNatClampNeg) := own_inb (n := n) (k := kk) Sz3 (by omega) (by omega)
 have hat3 : cl3.slots[((own_n kk)).toNatClampNeg]? = some (.int (g kk)) := own_at (n := n) (k := kk) (g := g) Hs3 Sz3 (by omega) (by omega) rfl
 have S4 : ∀ tz, oS p e below T2 (mkF m 14 #[rv b0, iv (own_n kk)] [(.int (((g kk) &&& (255 : Int32))).toUInt32.toUInt16.toUInt32.toInt32)]) tz → P0 tz := fun tz kz => in0 tz (by
  refine XS.iloadN X0.here hx rfl (Y 0 rfl) rfl ?_
  refine XS.aloadN X0.here hx rfl (Y 1 rfl) rfl rfl ?_
  refine X0.arraylength hx (by rw [e0]; exact Ar1.1) (State.isArrayOf_alike hZ.alike Ar1.2.1) (g := (mkF m 2 #[rv b0, iv (own_n kk)] [(.ref b0), (.int (own_n kk))])) rfl rfl (Y 2 rfl) _ ?_
  rw [len_of Sz1 Ng1]
  refine st2 _ ?_
  refine XS.aloadN X2.here hx rfl (Y 4 rfl) rfl rfl ?_
  refine XS.iloadN X2.here hx rfl (Y 5 rfl) rfl ?_
  refine X2.baloadBytes hx (j := (own_n kk)) (v := (.int (g kk))) (by rw [e2]; exact Ar3.1) (State.isArrayOf_alike hZ.alike Ar3.2.1) Ar3.2.2 hin3 hat3 (g := (mkF m 8 #[rv b0, iv (own_n kk)] [(.int (own_n kk)), (.ref b0)])) rfl rfl (Y 6 rfl) _ ?_
  refine XT.sipushV X2.here hx rfl (255 : Int32) (Y 7 rfl) (by decide) ?_
  refine XS.iand X2.here hx rfl (Y 8 rfl) rfl ?_
  refine XT.i2c X2.here hx rfl (Y 9 rfl) rfl ?_
  show oS p e below T2 (mkF m 14 #[rv b0, iv (own_n kk)] [(.int (((g kk) &&& (255 : Int32))).toUInt32.toUInt16.toUInt32.toInt32)]) _
  exact kz)
 obtain ⟨fs, hr, hrun, hended, hW, hsame⟩ := X2.leave (v := some (.int (nar .char (((g kk) &&& (255 : Int32))).toUInt32.toUInt16.toUInt32.toInt32))) (fun h => by rw [Bd.returns] at h; cases h)
 refine ⟨_, _, pre0 _ (S4 _ ?_), hrun, hended, _, _, rfl, ?_, ⟨_, rfl⟩, hW, hsame.mono (by decide) (by decide)⟩
 · exact retN X2 hx (t := .char) Bd.returns (by simp) (Y 10 rfl) hr
 · show QrmLC Z b0 n g kk fm h0 n0 _ T2.heap _
   rw [e2]
   exact ⟨rfl, N2, rfl⟩
theorem D_rmLI : oL jdk_42_method_154_code [(0, .getstatic 38, 3), (3, .ifCond .eq 14, 3), (6, .aload_n 0, 1), (7, .getfield 15, 3), (10, .ifCond .ne 7, 3), (13, .iconst 1, 1), (14, .goto 4, 3), (18, .ireturn, 1)] := by decide +kernel
def QrmLI (Z : State) (a0 : Addr) (wC : Int32) (h0 : Heap) (n0 : Nat) (v : Option Value) (h : Heap) (L : List Loc) : Prop := v = some (.int (1 : Int32)) ∧ Fr n0 L ∧ h = h0
theorem rmLI (l : Launch) (Z : State) (av0 : Array Value) (hw : ∀ d ∈ tables_1, d.before av0 Z = true) (ws : List Jvm.Cond) (a0 : Addr) (wC : Int32) (h0 : Heap) (n0 : Nat) (Z0 : n0 ≤ h0.size) (hFc : Fld Z h0 a0 "java/lang/String" "coder" "B" (.int (0 : Int32))) (hSC : Sta Z h0 "java/lang/String" "COMPACT_STRINGS" "Z" (.int wC)) (hwC : ¬ wC = (0 : Int32)) :
   own_Met l mN36 jdk_42_method_154_code 1 (some .boolean) ws ({ frames := 0, cells := 0, slots := 0, locals := 0 } : Room) #[(.ref a0)] Z h0 (QrmLI Z a0 wC h0 n0) := by
 refine MetFree.of_bodySF (plainFor_of_name pn_String) hisR ?_
 intro p e s m args below meth c s₁ Bd hml0 hP hK
 obtain ⟨rfl, hZ, hh⟩ := hP
 have hml : c.maxLocals = 1 := hml0
 obtain ⟨hx, hby, hown, hnm, X0, e0⟩ := own_start Bd hml0 hh
 have N0 := Fr.nil n0
 have Y := @oY _ _ _ hby D_rmLI
 obtain ⟨P0, in0, pre0⟩ : ∃ P : State → Prop, (∀ tz, oS p e below s₁ (mkF m 0 #[rv a0] []) tz → P tz) ∧ ∀ tz, P tz → Steps p.tables e below (s₁.setTop (entryFrame m #[(.ref a0)] 1)) tz := ⟨_, fun _ kz => kz, fun tz kz => castTop (by first | (simp [entryFrame, mkF, argsToLocals, Value.category]; done) | rfl) kz⟩
 obtain ⟨T1, X1, e1, st1⟩ := getS2 X0 hx hZ hown (host := "") (Or.inl (oq hw 87 rfl)) Via.refl e0 hSC (g := (mkF m 0 #[rv a0] [])) rfl (Y 0 rfl)
 obtain ⟨T2, X2, e2, st2⟩ := getF X1 hx hZ hown (host := "") (Or.inl (oq hw 88 rfl)) Via.refl e1 hFc (g := (mkF m 7 #[rv a0] [(.ref a0)])) rfl rfl (Y 3 rfl)
 have S3 : ∀ tz, oS p e below T2 (mkF m 18 #[rv a0] [(.int 1)]) tz → P0 tz := fun tz kz => in0 tz (by
  refine st1 _ ?_
  refine XS.ifNo X1.here hx rfl (Y 1 rfl) rfl (XT.i0_eq_f hwC) ?_
  refine XS.aloadN X1.here hx rfl (Y 2 rfl) rfl rfl ?_
  refine st2 _ ?_
  refine XS.ifNo X2.here hx rfl (Y 4 rfl) rfl (XT.i0_ne_f (by decide)) ?_
  refine XT.iconstV X2.here hx rfl (1 : Int32) (Y 5 rfl) (by decide) ?_
  refine XS.goto X2.here hx rfl (pc0 := 14) (pc' := 18) rfl (Y 6 rfl) (by decide) (by decide) ?_
  exact kz)
 obtain ⟨fs, hr, hrun, hended, hW, hsame⟩ := X2.leave (v := some (.int 1)) (fun h => by rw [Bd.returns] at h; cases h)
 refine ⟨_, _, pre0 _ (S3 _ ?_), hrun, hended, _, _, rfl, ?_, ⟨_, rfl⟩, hW, hsame.mono (by decide) (by decide)⟩
 · exact retN X2 hx (t := .boolean) Bd.returns (by simp) (Y 7 rfl) hr
 · show QrmLI Z a0 wC h0 n0 _ T2.heap _
   rw [e2]
   exact ⟨rfl, N0, rfl⟩
theorem D_rmCh : oL jdk_42_method_56_code [(0, .aload_n 0, 1), (1, .invokevirtual 492, 3), (4, .ifCond .eq 12, 3), (7, .aload_n 0, 1), (8, .getfield 9, 3), (11, .iload_n 1, 1), (12, .invokestatic 495, 3), (15, .ireturn, 1)] := by decide +kernel
theorem pd__A_BI_C : parseMethodDescriptor "([BI)C" = some ⟨[(.array .byte), .int], some .char⟩ := by decide +kernel
def QrmCh (Z : State) (a0 : Addr) (b0 : Addr) (n : Nat) (g : Nat → Int32) (kk : Nat) (fm : Value) (wC : Int32) (h0 : Heap) (n0 : Nat) (v : Option Value) (h : Heap) (L : List Loc) : Prop := v = some (.int (own_ca (g kk))) ∧ Fr n0 L ∧ h = h0
theorem rmCh (l : Launch) (Z : State) (av0 : Array Value) (hw : ∀ d ∈ tables_1, d.before av0 Z = true) (ws : List Jvm.Cond) (a0 : Addr) (b0 : Addr) (n : Nat) (g : Nat → Int32) (kk : Nat) (fm : Value) (wC : Int32) (h0 : Heap) (n0 : Nat) (Z0 : n0 ≤ h0.size) (hD : own_Str Z h0 a0 b0 n g) (hbd : kk < n ∧ n < 1000) (hfm : fm.isRef = true) (hFm : Sta Z h0 "jdk/internal/util/Preconditions" "SIOOBE_FORMATTER" "Ljava/util/function/BiFunction;" fm) (hSC : Sta Z h0 "java/lang/String" "COMPACT_STRINGS" "Z" (.int wC)) (hwC : ¬ wC = (0 : Int32)) :
   own_Met l mN37 jdk_42_method_56_code 2 (some .char) ws ({ frames := 3, cells := 0, slots := 0, locals := 40 } : Room) #[(.ref a0), (.int (own_n kk))] Z h0 (QrmCh Z a0 b0 n g kk fm wC h0 n0) := by
 refine MetFree.of_bodySF (plainFor_of_name pn_String) hisR ?_
 intro p e s m args below meth c s₁ Bd hml0 hP hK
 obtain ⟨rfl, hZ, hh⟩ := hP
 have hml : c.maxLocals = 2 := hml0
 obtain ⟨hx, hby, hown, hnm, X0, e0⟩ := own_start Bd hml0 hh
 have N0 := Fr.nil n0
 have Y := @oY _ _ _ hby D_rmCh
 obtain ⟨P0, in0, pre0⟩ : ∃ P : State → Prop, (∀ tz, oS p e below s₁ (mkF m 0 #[rv a0, iv (own_n kk)] []) tz → P tz) ∧ ∀ tz, P tz → Steps p.tables e below (s₁.setTop (entryFrame m #[(.ref a0), (.int (own_n kk))] 2)) tz := ⟨_, fun _ kz => kz, fun tz kz => castTop (by first | (simp [entryFrame, mkF, argsToLocals, Value.category]; done) | rfl) kz⟩
 obtain ⟨_, T1, Lc1, X1, hQ1, st1⟩ := own_virtual (W := 0) (y := mN36) (z := mN36) X0 hx hZ hown (oq hw 234 rfl) (oq hw 235 rfl) (notFace_of_selects (args := #[]) (mvT hZ (oq hw 237 rfl))) (oq hw 237 rfl) (oq hw 236 rfl) (oq hw 238 rfl) (oq hw 1 rfl) (by decide) (rmLI l Z av0 hw [] a0 wC h0 n0 Z0 hD.C hSC hwC) (by decide) (by decide) hD.E (g := (mkF m 1 #[rv a0, iv (own_n kk)] [(.ref a0)])) rfl (by rw [hml]; rfl) (argsL := []) (rest := []) (lenOf pd__Z rfl) rfl (Y 1 rfl) rfl e0 (by decide : 0 + 0 ≤ _) (by decide : 0 + 0 ≤ _)
 obtain ⟨rfl, N1q, hh1⟩ := hQ1
 have N1 := Fr.app N0 N1q
 have e1 : T1.heap = h0 := hh1
 obtain ⟨T2, X2, e2, st2⟩ := getF X1 hx hZ hown (host := "") (Or.inl (oq hw 81 rfl)) Via.refl e1 hD.V (g := (mkF m 8 #[rv a0, iv (own_n kk)] [(.ref a0)])) rfl rfl (Y 4 rfl)
 obtain ⟨_, T3, Lc3, X3, hQ3, st3⟩ := own_callS (W := 0) (y := mN35) X2 hx hZ hown (oq hw 239 rfl) (oq hw 240 rfl) (oq hw 241 rfl) (oq hw 242 rfl) (by decide) (rmLC l Z av0 hw [] b0 n g kk fm h0 n0 Z0 hD.A hbd hfm hFm) (by decide) (by decide) (g := (mkF m 12 #[rv a0, iv (own_n kk)] [(.int (own_n kk)), (.ref b0)])) rfl (by rw [hml]; rfl) (argsL := [(.ref b0), (.int (own_n kk))]) (rest := []) (lenOf pd__A_BI_C rfl) rfl (Y 6 rfl) rfl e2 (by decide : 0 + 0 ≤ _) (by decide : 0 + 0 ≤ _)
 obtain ⟨rfl, N3q, hh3⟩ := hQ3
 have N3 := Fr.app N1 N3q
 have e3 : T3.heap = h0 := hh3
 have S4 : ∀ tz, oS p e below T3 (mkF m 15 #[rv a0, iv (own_n kk)] [(.int (own_ca (g kk)))]) tz → P0 tz := fun tz kz => in0 tz (by
  refine XS.aloadN X0.here hx rfl (Y 0 rfl) rfl rfl ?_
  refine st1 _ ?_
  refine XS.ifNo X1.here hx rfl (Y 2 rfl) rfl (XT.i0_eq_f (by decide)) ?_
  refine XS.aloadN X1.here hx rfl (Y 3 rfl) rfl rfl ?_
  refine st2 _ ?_
  refine XS.iloadN X2.here hx rfl (Y 5 rfl) rfl ?_
  refine st3 _ ?_
  exact kz)
 obtain ⟨fs, hr, hrun, hended, hW, hsame⟩ := X3.leave (v := some (.int (nar .char (own_ca (g kk))))) (fun h => by rw [Bd.returns] at h; cases h)
 refine ⟨_, _, pre0 _ (S4 _ ?_), hrun, hended, _, _, rfl, ?_, ⟨_, rfl⟩, hW, hsame.mono (by decide) (by decide)⟩
 · exact retN X3 hx (t := .char) Bd.returns (by simp) (Y 7 rfl) hr
 · show QrmCh Z a0 b0 n g kk fm wC h0 n0 _ T3.heap _
   rw [e3]
   exact ⟨congrArg (fun z => some (Value.int z)) (own_ncc _), N3, rfl⟩
theorem D_rmc : oL method_3_code [(0, .iload_n 1, 1), (1, .ifCond .ge 5, 3), (6, .iload_n 3, 1), (7, .aload_n 2, 1), (8, .invokevirtual 47, 3), (11, .if_icmp .lt 5, 3), (16, .iload_n 1, 1), (17, .aload_n 0, 1), (18, .invokevirtual 47, 3), (21, .if_icmp .ge 16, 3), (24, .aload_n 0, 1), (25, .iload_n 1, 1), (26, .invokevirtual 51, 3), (29, .aload_n 2, 1), (30, .iload_n 3, 1), (31, .invokevirtual 51, 3), (34, .if_icmp .eq 5, 3), (39, .iload_n 1, 1), (40, .iconst 1, 1), (41, .iadd, 1), (42, .ireturn, 1), (14, .iload_n 1, 1), (15, .ireturn, 1)] := by decide +kernel
theorem pn_MessageToStringPinLaw : plainName "com/example/campofelice/campofelice/MessageToStringPinLaw" = true := by first | (simp [plainName, overriddenIn]; done) | decide +kernel
theorem pd__I_C : parseMethodDescriptor "(I)C" = some ⟨[.int], some .char⟩ := by decide +kernel
def Qrmc (Z : State) (a0 : Addr) (b0 : Addr) (n : Nat) (g : Nat → Int32) (sa : Addr) (sb : Addr) (nt : Nat) (gt : Nat → Int32) (pp : Nat) (kk : Nat) (fm : Value) (wC : Int32) (h0 : Heap) (n0 : Nat) (v : Option Value) (h : Heap) (L : List Loc) : Prop := v = some (.int (own_n (if kk < nt then pp + 1 else pp))) ∧ Fr n0 L ∧ h = h0
theorem rmc (l : Launch) (Z : State) (av0 : Array Value) (hw : ∀ d ∈ tables_1, d.before av0 Z = true) (ws : List Jvm.Cond) (a0 : Addr) (b0 : Addr) (n : Nat) (g : Nat → Int32) (sa : Addr) (sb : Addr) (nt : Nat) (gt : Nat → Int32) (pp : Nat) (kk : Nat) (fm : Value) (wC : Int32) (h0 : Heap) (n0 : Nat) (Z0 : n0 ≤ h0.size) (hD : own_Str Z h0 a0 b0 n g) (hT : own_Str Z h0 sa sb nt gt) (hbd : pp ≤ n ∧ n < 1000 ∧ nt < 1000 ∧ kk < 1000) (hq : kk < nt → pp < n ∧ g pp = gt kk) (hfm : fm.isRef = true) (hFm : Sta Z h0 "jdk/internal/util/Preconditions" "SIOOBE_FORMATTER" "Ljava/util/function/BiFunction;" fm) (hSC : Sta Z h0 "java/lang/String" "COMPACT_STRINGS" "Z" (.int wC)) (hwC : ¬ wC = (0 : Int32)) :
   own_Met l mN38 method_3_code 4 (some .int) ws ({ frames := 4, cells := 0, slots := 0, locals := 54 } : Room) #[(.ref a0), (.int (own_n pp)), (.ref sa), (.int (own_n kk))] Z h0 (Qrmc Z a0 b0 n g sa sb nt gt pp kk fm wC h0 n0) := by
 refine MetFree.of_bodySF (plainFor_of_name pn_MessageToStringPinLaw) hisR ?_
 intro p e s m args below meth c s₁ Bd hml0 hP hK
 obtain ⟨rfl, hZ, hh⟩ := hP
 have hml : c.maxLocals = 4 := hml0
 obtain ⟨hx, hby, hown, hnm, X0, e0⟩ := own_start Bd hml0 hh
 have N0 := Fr.nil n0
 have Y := @oY _ _ _ hby D_rmc
 obtain ⟨P0, in0, pre0⟩ : ∃ P : State → Prop, (∀ tz, oS p e below s₁ (mkF m 0 #[rv a0, iv (own_n pp), rv sa, iv (own_n kk)] []) tz → P tz) ∧ ∀ tz, P tz → Steps p.tables e below (s₁.setTop (entryFrame m #[(.ref a0), (.int (own_n pp)), (.ref sa), (.int (own_n kk))] 4)) tz := ⟨_, fun _ kz => kz, fun tz kz => castTop (by first | (simp [entryFrame, mkF, argsToLocals, Value.category]; done) | rfl) kz⟩
 obtain ⟨_, T1, Lc1, X1, hQ1, st1⟩ := own_virtual (W := 1) (y := mN1) (z := mN1) X0 hx hZ hown (oq hw 228 rfl) (oq hw 77 rfl) (notFace_of_selects (args := #[]) (mvT hZ (oq hw 79 rfl))) (oq hw 79 rfl) (oq hw 78 rfl) (oq hw 80 rfl) (oq hw 1 rfl) (by decide) (rmLen l Z av0 hw [] sa sb nt gt wC h0 n0 Z0 (own_Str.mk hT.E hT.C hT.V hT.A) (by omega) hSC hwC) (by decide) (by decide) hT.E (g := (mkF m 8 #[rv a0, iv (own_n pp), rv sa, iv (own_n kk)] [(.ref sa), (.int (own_n kk))])) rfl (by rw [hml]; rfl) (argsL := []) (rest := [(.int (own_n kk))]) (lenOf pd__I rfl) rfl (Y 4 rfl) rfl e0 (by decide : 0 + 0 ≤ _) (by decide : 0 + 0 ≤ _)
 obtain ⟨rfl, N1q, hh1⟩ := hQ1
 have N1 := Fr.app N0 N1q
 have e1 : T1.heap = h0 := hh1
 have S2 : ∀ tz, oS p e below T1 (mkF m 11 #[rv a0, iv (own_n pp), rv sa, iv (own_n kk)] [(.int (own_n nt)), (.int (own_n kk))]) tz → P0 tz := fun tz kz => in0 tz (by
  refine XS.iloadN X0.here hx rfl (Y 0 rfl) rfl ?_
  refine XS.ifYes X0.here hx rfl (pc0 := 1) (pc' := 6) rfl (Y 1 rfl) rfl (XT.i0_ge_t (own_nge (by omega))) (by decide) (by decide) ?_
  refine XS.iloadN X0.here hx rfl (Y 2 rfl) rfl ?_
  refine XS.aloadN X0.here hx rfl (Y 3 rfl) rfl rfl ?_
  refine st1 _ ?_
  exact kz)
 by_cases hc11_3 : (own_n kk) < (own_n nt)
 ·have hkt : kk < nt := (own_cmpN (by omega) (by omega)).mp hc11_3
  have hq' := hq hkt
  obtain ⟨_, T4, Lc4, X4, hQ4, st4⟩ := own_virtual (W := 1) (y := mN1) (z := mN1) X1 hx hZ hown (oq hw 228 rfl) (oq hw 77 rfl) (notFace_of_selects (args := #[]) (mvT hZ (oq hw 79 rfl))) (oq hw 79 rfl) (oq hw 78 rfl) (oq hw 80 rfl) (oq hw 1 rfl) (by decide) (rmLen l Z av0 hw [] a0 b0 n g wC h0 n0 Z0 (own_Str.mk hD.E hD.C hD.V hD.A) (by omega) hSC hwC) (by decide) (by decide) hD.E (g := (mkF m 18 #[rv a0, iv (own_n pp), rv sa, iv (own_n kk)] [(.ref a0), (.int (own_n pp))])) rfl (by rw [hml]; rfl) (argsL := []) (rest := [(.int (own_n pp))]) (lenOf pd__I rfl) rfl (Y 8 rfl) rfl e1 (by decide : 0 + 0 ≤ _) (by decide : 0 + 0 ≤ _)
  obtain ⟨rfl, N4q, hh4⟩ := hQ4
  have N4 := Fr.app N1 N4q
  have e4 : T4.heap = h0 := hh4
  obtain ⟨_, T5, Lc5, X5, hQ5, st5⟩ := own_virtual (W := 0) (y := mN37) (z := mN37) X4 hx hZ hown (oq hw 229 rfl) (oq hw 230 rfl) (notFace_of_selects (args := #[]) (mvT hZ (oq hw 232 rfl))) (oq hw 232 rfl) (oq hw 231 rfl) (oq hw 233 rfl) (oq hw 1 rfl) (by decide) (rmCh l Z av0 hw [] a0 b0 n g pp fm wC h0 n0 Z0 (own_Str.mk hD.E hD.C hD.V hD.A) ⟨by omega, by omega⟩ hfm hFm hSC hwC) (by decide) (by decide) hD.E (g := (mkF m 26 #[rv a0, iv (own_n pp), rv sa, iv (own_n kk)] [(.int (own_n pp)), (.ref a0)])) rfl (by rw [hml]; rfl) (argsL := [(.int (own_n pp))]) (rest := []) (lenOf pd__I_C rfl) rfl (Y 12 rfl) rfl e4 (by decide : 0 + 0 ≤ _) (by decide : 0 + 0 ≤ _)
  obtain ⟨rfl, N5q, hh5⟩ := hQ5
  have N5 := Fr.app N4 N5q
  have e5 : T5.heap = h0 := hh5
  obtain ⟨_, T6, Lc6, X6, hQ6, st6⟩ := own_virtual (W := 1) (y := mN37) (z := mN37) X5 hx hZ hown (oq hw 229 rfl) (oq hw 230 rfl) (notFace_of_selects (args := #[]) (mvT hZ (oq hw 232 rfl))) (oq hw 232 rfl) (oq hw 231 rfl) (oq hw 233 rfl) (oq hw 1 rfl) (by decide) (rmCh l Z av0 hw [] sa sb nt gt kk fm wC h0 n0 Z0 (own_Str.mk hT.E hT.C hT.V hT.A) ⟨by omega, by omega⟩ hfm hFm hSC hwC) (by decide) (by decide) hT.E (g := (mkF m 31 #[rv a0, iv (own_n pp), rv sa, iv (own_n kk)] [(.int (own_n kk)), (.ref sa), (.int (own_ca (g pp)))])) rfl (by rw [hml]; rfl) (argsL := [(.int (own_n kk))]) (rest := [(.int (own_ca (g pp)))]) (lenOf pd__I_C rfl) rfl (Y 15 rfl) rfl e5 (by decide : 0 + 0 ≤ _) (by decide : 0 + 0 ≤ _)
  obtain ⟨rfl, N6q, hh6⟩ := hQ6
  have N6 := Fr.app N5 N6q
  have e6 : T6.heap = h0 := hh6
  have S7 : ∀ tz, oS p e below T6 (mkF m 42 #[rv a0, iv (own_n pp), rv sa, iv (own_n kk)] [(.int (own_n (pp + 1)))]) tz → P0 tz := fun tz kz => S2 tz (by
   refine XS.icmpYes X1.here hx rfl (pc0 := 11) (pc' := 16) rfl (Y 5 rfl) rfl (XT.ii_lt_t hc11_3) (by decide) (by decide) ?_
   refine XS.iloadN X1.here hx rfl (Y 6 rfl) rfl ?_
   refine XS.aloadN X1.here hx rfl (Y 7 rfl) rfl rfl ?_
   refine st4 _ ?_
   refine XS.icmpNo X4.here hx rfl (Y 9 rfl) rfl (XT.ii_ge_f (own_nlt (by omega) (by omega)).2) ?_
   show oS p e below T4 (mkF m 24 #[rv a0, iv (own_n pp), rv sa, iv (own_n kk)] []) _
   refine XS.aloadN X4.here hx rfl (Y 10 rfl) rfl rfl ?_
   refine XS.iloadN X4.here hx rfl (Y 11 rfl) rfl ?_
   refine st5 _ ?_
   refine XS.aloadN X5.here hx rfl (Y 13 rfl) rfl rfl ?_
   refine XS.iloadN X5.here hx rfl (Y 14 rfl) rfl ?_
   refine st6 _ ?_
   refine XS.icmpYes X6.here hx rfl (pc0 := 34) (pc' := 39) rfl (Y 16 rfl) rfl (XT.ii_eq_t (congrArg own_ca hq'.2)) (by decide) (by decide) ?_
   refine XS.iloadN X6.here hx rfl (Y 17 rfl) rfl ?_
   refine XT.iconstV X6.here hx rfl (1 : Int32) (Y 18 rfl) (by decide) ?_
   refine XS.iadd X6.here hx rfl (Y 19 rfl) rfl ?_
   show oS p e below T6 (mkF m 42 #[rv a0, iv (own_n pp), rv sa, iv (own_n kk)] [(.int ((own_n pp) + (1 : Int32)))]) _
   rw [own_nadd (by omega)]
   show oS p e below T6 (mkF m 42 #[rv a0, iv (own_n pp), rv sa, iv (own_n kk)] [(.int (own_n (pp + 1)))]) _
   exact kz)
  obtain ⟨fs, hr, hrun, hended, hW, hsame⟩ := X6.leave (v := some (.int (own_n (pp + 1)))) (fun h => by rw [Bd.returns] at h; cases h)
  refine ⟨_, _, pre0 _ (S7 _ ?_), hrun, hended, _, _, rfl, ?_, ⟨_, rfl⟩, hW, hsame.mono (by decide) (by decide)⟩
  · exact retI X6 hx Bd.returns (Y 20 rfl) hr
  · show Qrmc Z a0 b0 n g sa sb nt gt pp kk fm wC h0 n0 _ T6.heap _
    rw [e6]
    exact ⟨by rw [if_pos ((own_cmpN (by omega) (by omega)).mp hc11_3)], N6, rfl⟩
 ·have S8 : ∀ tz, oS p e below T1 (mkF m 15 #[rv a0, iv (own_n pp), rv sa, iv (own_n kk)] [(.int (own_n pp))]) tz → P0 tz := fun tz kz => S2 tz (by
   refine XS.icmpNo X1.here hx rfl (Y 5 rfl) rfl (XT.ii_lt_f hc11_3) ?_
   refine XS.iloadN X1.here hx rfl (Y 21 rfl) rfl ?_
   exact kz)
  obtain ⟨fs, hr, hrun, hended, hW, hsame⟩ := X1.leave (v := some (.int (own_n pp))) (fun h => by rw [Bd.returns] at h; cases h)
  refine ⟨_, _, pre0 _ (S8 _ ?_), hrun, hended, _, _, rfl, ?_, ⟨_, rfl⟩, hW, hsame.mono (by decide) (by decide)⟩
  · exact retI X1 hx Bd.returns (Y 22 rfl) hr
  · show Qrmc Z a0 b0 n g sa sb nt gt pp kk fm wC h0 n0 _ T1.heap _
    rw [e1]
    exact ⟨by rw [if_neg (fun q => hc11_3 ((own_cmpN (by omega) (by omega)).mpr q))], N1, rfl⟩
theorem D_rmlit : oL method_4_code [(0, .aload_n 0, 1), (1, .iload_n 1, 1), (2, .aload_n 2, 1), (3, .iconst 0, 1), (4, .invokestatic 55, 3), (7, .istore_n 1, 1), (8, .aload_n 0, 1), (9, .iload_n 1, 1), (10, .aload_n 2, 1), (11, .iconst 1, 1), (12, .invokestatic 55, 3), (15, .istore_n 1, 1), (16, .aload_n 0, 1), (17, .iload_n 1, 1), (18, .aload_n 2, 1), (19, .iconst 2, 1), (20, .invokestatic 55, 3), (23, .istore_n 1, 1), (24, .aload_n 0, 1), (25, .iload_n 1, 1), (26, .aload_n 2, 1), (27, .iconst 3, 1), (28, .invokestatic 55, 3), (31, .istore_n 1, 1), (32, .aload_n 0, 1), (33, .iload_n 1, 1), (34, .aload_n 2, 1), (35, .iconst 4, 1), (36, .invokestatic 55, 3), (39, .istore_n 1, 1), (40, .aload_n 0, 1), (41, .iload_n 1, 1), (42, .aload_n 2, 1), (43, .iconst 5, 1), (44, .invokestatic 55, 3), (47, .istore_n 1, 1), (48, .aload_n 0, 1), (49, .iload_n 1, 1), (50, .aload_n 2, 1), (51, .bipush 6, 2), (53, .invokestatic 55, 3), (56, .istore_n 1, 1), (57, .aload_n 0, 1), (58, .iload_n 1, 1), (59, .aload_n 2, 1), (60, .bipush 7, 2), (62, .invokestatic 55, 3), (65, .istore_n 1, 1), (66, .aload_n 0, 1), (67, .iload_n 1, 1), (68, .aload_n 2, 1), (69, .bipush 8, 2), (71, .invokestatic 55, 3), (74, .istore_n 1, 1), (75, .aload_n 0, 1), (76, .iload_n 1, 1), (77, .aload_n 2, 1), (78, .bipush 9, 2), (80, .invokestatic 55, 3), (83, .istore_n 1, 1), (84, .iload_n 1, 1), (85, .ireturn, 1)] := by decide +kernel
theorem pd__Ljava_lang_String_ILjava_lang_String_I_I : parseMethodDescriptor "(Ljava/lang/String;ILjava/lang/String;I)I" = some ⟨[(.object "java/lang/String"), .int, (.object "java/lang/String"), .int], some .int⟩ := by decide +kernel
def Qrmlit (Z : State) (a0 : Addr) (b0 : Addr) (n : Nat) (g : Nat → Int32) (sa : Addr) (sb : Addr) (nt : Nat) (gt : Nat → Int32) (pp : Nat) (fm : Value) (wC : Int32) (h0 : Heap) (n0 : Nat) (v : Option Value) (h : Heap) (L : List Loc) : Prop := v = some (.int (own_n (pp + nt))) ∧ Fr n0 L ∧ h = h0
theorem rmlit (l : Launch) (Z : State) (av0 : Array Value) (hw : ∀ d ∈ tables_1, d.before av0 Z = true) (ws : List Jvm.Cond) (a0 : Addr) (b0 : Addr) (n : Nat) (g : Nat → Int32) (sa : Addr) (sb : Addr) (nt : Nat) (gt : Nat → Int32) (pp : Nat) (fm : Value) (wC : Int32) (h0 : Heap) (n0 : Nat) (Z0 : n0 ≤ h0.size) (hD : own_Str Z h0 a0 b0 n g) (hT : own_Str Z h0 sa sb nt gt) (hbd : pp + nt ≤ n ∧ n < 1000 ∧ nt ≤ 10) (hq : ∀ k, k < nt → g (pp + k) = gt k) (hfm : fm.isRef = true) (hFm : Sta Z h0 "jdk/internal/util/Preconditions" "SIOOBE_FORMATTER" "Ljava/util/function/BiFunction;" fm) (hSC : Sta Z h0 "java/lang/String" "COMPACT_STRINGS" "Z" (.int wC)) (hwC : ¬ wC = (0 : Int32)) :
   own_Met l mN39 method_4_code 3 (some .int) ws ({ frames := 5, cells := 0, slots := 0, locals := 69 } : Room) #[(.ref a0), (.int (own_n pp)), (.ref sa)] Z h0 (Qrmlit Z a0 b0 n g sa sb nt gt pp fm wC h0 n0) := by
 refine MetFree.of_bodySF (plainFor_of_name pn_MessageToStringPinLaw) hisR ?_
 intro p e s m args below meth c s₁ Bd hml0 hP hK
 obtain ⟨rfl, hZ, hh⟩ := hP
 have hml : c.maxLocals = 3 := hml0
 obtain ⟨hx, hby, hown, hnm, X0, e0⟩ := own_start Bd hml0 hh
 have N0 := Fr.nil n0
 have Y := @oY _ _ _ hby D_rmlit
 obtain ⟨P0, in0, pre0⟩ : ∃ P : State → Prop, (∀ tz, oS p e below s₁ (mkF m 0 #[rv a0, iv (own_n pp), rv sa] []) tz → P tz) ∧ ∀ tz, P tz → Steps p.tables e below (s₁.setTop (entryFrame m #[(.ref a0), (.int (own_n pp)), (.ref sa)] 3)) tz := ⟨_, fun _ kz => kz, fun tz kz => castTop (by first | (simp [entryFrame, mkF, argsToLocals, Value.category]; done) | rfl) kz⟩
 obtain ⟨_, T1, Lc1, X1, hQ1, st1⟩ := own_callS (W := 0) (y := mN38) X0 hx hZ hown (oq hw 225 rfl) (oq hw 226 rfl) (oq hw 223 rfl) (oq hw 227 rfl) (by decide) (rmc l Z av0 hw [] a0 b0 n g sa sb nt gt pp 0 fm wC h0 n0 Z0 hD hT ⟨by omega, by omega, by omega, by omega⟩ (fun q => ⟨by omega, by rw [show pp = pp + 0 by omega]; exact hq 0 q⟩) hfm hFm hSC hwC) (by decide) (by decide) (g := (mkF m 4 #[rv a0, iv (own_n pp), rv sa] [(.int 0), (.ref sa), (.int (own_n pp)), (.ref a0)])) rfl (by rw [hml]; rfl) (argsL := [(.ref a0), (.int (own_n pp)), (.ref sa), (.int 0)]) (rest := []) (lenOf pd__Ljava_lang_String_ILjava_lang_String_I_I rfl) rfl (Y 4 rfl) rfl e0 (by decide : 0 + 0 ≤ _) (by decide : 0 + 0 ≤ _)
 obtain ⟨rfl, N1q, hh1⟩ := hQ1
 have N1 := Fr.app N0 N1q
 have e1 : T1.heap = h0 := hh1
 obtain ⟨_, T2, Lc2, X2, hQ2, st2⟩ := own_callS (W := 0) (y := mN38) X1 hx hZ hown (oq hw 225 rfl) (oq hw 226 rfl) (oq hw 223 rfl) (oq hw 227 rfl) (by decide) (rmc l Z av0 hw [] a0 b0 n g sa sb nt gt (pp + min 1 nt) 1 fm wC h0 n0 Z0 hD hT ⟨by omega, by omega, by omega, by omega⟩ (fun q => ⟨by omega, by rw [show (pp + min 1 nt) = pp + 1 by omega]; exact hq 1 q⟩) hfm hFm hSC hwC) (by decide) (by decide) (g := (mkF m 12 #[rv a0, iv ((own_n (pp + min 1 nt))), rv sa] [(.int 1), (.ref sa), (.int (own_n (pp + min 1 nt))), (.ref a0)])) rfl (by rw [hml]; rfl) (argsL := [(.ref a0), (.int (own_n (pp + min 1 nt))), (.ref sa), (.int 1)]) (rest := []) (lenOf pd__Ljava_lang_String_ILjava_lang_String_I_I rfl) rfl (Y 10 rfl) rfl e1 (by decide : 0 + 0 ≤ _) (by decide : 0 + 0 ≤ _)
 obtain ⟨rfl, N2q, hh2⟩ := hQ2
 have N2 := Fr.app N1 N2q
 have e2 : T2.heap = h0 := hh2
 obtain ⟨_, T3, Lc3, X3, hQ3, st3⟩ := own_callS (W := 0) (y := mN38) X2 hx hZ hown (oq hw 225 rfl) (oq hw 226 rfl) (oq hw 223 rfl) (oq hw 227 rfl) (by decide) (rmc l Z av0 hw [] a0 b0 n g sa sb nt gt (pp + min 2 nt) 2 fm wC h0 n0 Z0 hD hT ⟨by omega, by omega, by omega, by omega⟩ (fun q => ⟨by omega, by rw [show (pp + min 2 nt) = pp + 2 by omega]; exact hq 2 q⟩) hfm hFm hSC hwC) (by decide) (by decide) (g := (mkF m 20 #[rv a0, iv ((own_n (pp + min 2 nt))), rv sa] [(.int 2), (.ref sa), (.int (own_n (pp + min 2 nt))), (.ref a0)])) rfl (by rw [hml]; rfl) (argsL := [(.ref a0), (.int (own_n (pp + min 2 nt))), (.ref sa), (.int 2)]) (rest := []) (lenOf pd__Ljava_lang_String_ILjava_lang_String_I_I rfl) rfl (Y 16 rfl) rfl e2 (by decide : 0 + 0 ≤ _) (by decide : 0 + 0 ≤ _)
 obtain ⟨rfl, N3q, hh3⟩ := hQ3
 have N3 := Fr.app N2 N3q
 have e3 : T3.heap = h0 := hh3
 obtain ⟨_, T4, Lc4, X4, hQ4, st4⟩ := own_callS (W := 0) (y := mN38) X3 hx hZ hown (oq hw 225 rfl) (oq hw 226 rfl) (oq hw 223 rfl) (oq hw 227 rfl) (by decide) (rmc l Z av0 hw [] a0 b0 n g sa sb nt gt (pp + min 3 nt) 3 fm wC h0 n0 Z0 hD hT ⟨by omega, by omega, by omega, by omega⟩ (fun q => ⟨by omega, by rw [show (pp + min 3 nt) = pp + 3 by omega]; exact hq 3 q⟩) hfm hFm hSC hwC) (by decide) (by decide) (g := (mkF m 28 #[rv a0, iv ((own_n (pp + min 3 nt))), rv sa] [(.int 3), (.ref sa), (.int (own_n (pp + min 3 nt))), (.ref a0)])) rfl (by rw [hml]; rfl) (argsL := [(.ref a0), (.int (own_n (pp + min 3 nt))), (.ref sa), (.int 3)]) (rest := []) (lenOf pd__Ljava_lang_String_ILjava_lang_String_I_I rfl) rfl (Y 22 rfl) rfl e3 (by decide : 0 + 0 ≤ _) (by decide : 0 + 0 ≤ _)
 obtain ⟨rfl, N4q, hh4⟩ := hQ4
 have N4 := Fr.app N3 N4q
 have e4 : T4.heap = h0 := hh4
 obtain ⟨_, T5, Lc5, X5, hQ5, st5⟩ := own_callS (W := 0) (y := mN38) X4 hx hZ hown (oq hw 225 rfl) (oq hw 226 rfl) (oq hw 223 rfl) (oq hw 227 rfl) (by decide) (rmc l Z av0 hw [] a0 b0 n g sa sb nt gt (pp + min 4 nt) 4 fm wC h0 n0 Z0 hD hT ⟨by omega, by omega, by omega, by omega⟩ (fun q => ⟨by omega, by rw [show (pp + min 4 nt) = pp + 4 by omega]; exact hq 4 q⟩) hfm hFm hSC hwC) (by decide) (by decide) (g := (mkF m 36 #[rv a0, iv ((own_n (pp + min 4 nt))), rv sa] [(.int 4), (.ref sa), (.int (own_n (pp + min 4 nt))), (.ref a0)])) rfl (by rw [hml]; rfl) (argsL := [(.ref a0), (.int (own_n (pp + min 4 nt))), (.ref sa), (.int 4)]) (rest := []) (lenOf pd__Ljava_lang_String_ILjava_lang_String_I_I rfl) rfl (Y 28 rfl) rfl e4 (by decide : 0 + 0 ≤ _) (by decide : 0 + 0 ≤ _)
 obtain ⟨rfl, N5q, hh5⟩ := hQ5
 have N5 := Fr.app N4 N5q
 have e5 : T5.heap = h0 := hh5
 obtain ⟨_, T6, Lc6, X6, hQ6, st6⟩ := own_callS (W := 0) (y := mN38) X5 hx hZ hown (oq hw 225 rfl) (oq hw 226 rfl) (oq hw 223 rfl) (oq hw 227 rfl) (by decide) (rmc l Z av0 hw [] a0 b0 n g sa sb nt gt (pp + min 5 nt) 5 fm wC h0 n0 Z0 hD hT ⟨by omega, by omega, by omega, by omega⟩ (fun q => ⟨by omega, by rw [show (pp + min 5 nt) = pp + 5 by omega]; exact hq 5 q⟩) hfm hFm hSC hwC) (by decide) (by decide) (g := (mkF m 44 #[rv a0, iv ((own_n (pp + min 5 nt))), rv sa] [(.int 5), (.ref sa), (.int (own_n (pp + min 5 nt))), (.ref a0)])) rfl (by rw [hml]; rfl) (argsL := [(.ref a0), (.int (own_n (pp + min 5 nt))), (.ref sa), (.int 5)]) (rest := []) (lenOf pd__Ljava_lang_String_ILjava_lang_String_I_I rfl) rfl (Y 34 rfl) rfl e5 (by decide : 0 + 0 ≤ _) (by decide : 0 + 0 ≤ _)
 obtain ⟨rfl, N6q, hh6⟩ := hQ6
 have N6 := Fr.app N5 N6q
 have e6 : T6.heap = h0 := hh6
 obtain ⟨_, T7, Lc7, X7, hQ7, st7⟩ := own_callS (W := 0) (y := mN38) X6 hx hZ hown (oq hw 225 rfl) (oq hw 226 rfl) (oq hw 223 rfl) (oq hw 227 rfl) (by decide) (rmc l Z av0 hw [] a0 b0 n g sa sb nt gt (pp + min 6 nt) 6 fm wC h0 n0 Z0 hD hT ⟨by omega, by omega, by omega, by omega⟩ (fun q => ⟨by omega, by rw [show (pp + min 6 nt) = pp + 6 by omega]; exact hq 6 q⟩) hfm hFm hSC hwC) (by decide) (by decide) (g := (mkF m 53 #[rv a0, iv ((own_n (pp + min 6 nt))), rv sa] [(.int 6), (.ref sa), (.int (own_n (pp + min 6 nt))), (.ref a0)])) rfl (by rw [hml]; rfl) (argsL := [(.ref a0), (.int (own_n (pp + min 6 nt))), (.ref sa), (.int 6)]) (rest := []) (lenOf pd__Ljava_lang_String_ILjava_lang_String_I_I rfl) rfl (Y 40 rfl) rfl e6 (by decide : 0 + 0 ≤ _) (by decide : 0 + 0 ≤ _)
 obtain ⟨rfl, N7q, hh7⟩ := hQ7
 have N7 := Fr.app N6 N7q
 have e7 : T7.heap = h0 := hh7
 obtain ⟨_, T8, Lc8, X8, hQ8, st8⟩ := own_callS (W := 0) (y := mN38) X7 hx hZ hown (oq hw 225 rfl) (oq hw 226 rfl) (oq hw 223 rfl) (oq hw 227 rfl) (by decide) (rmc l Z av0 hw [] a0 b0 n g sa sb nt gt (pp + min 7 nt) 7 fm wC h0 n0 Z0 hD hT ⟨by omega, by omega, by omega, by omega⟩ (fun q => ⟨by omega, by rw [show (pp + min 7 nt) = pp + 7 by omega]; exact hq 7 q⟩) hfm hFm hSC hwC) (by decide) (by decide) (g := (mkF m 62 #[rv a0, iv ((own_n (pp + min 7 nt))), rv sa] [(.int 7), (.ref sa), (.int (own_n (pp + min 7 nt))), (.ref a0)])) rfl (by rw [hml]; rfl) (argsL := [(.ref a0), (.int (own_n (pp + min 7 nt))), (.ref sa), (.int 7)]) (rest := []) (lenOf pd__Ljava_lang_String_ILjava_lang_String_I_I rfl) rfl (Y 46 rfl) rfl e7 (by decide : 0 + 0 ≤ _) (by decide : 0 + 0 ≤ _)
 obtain ⟨rfl, N8q, hh8⟩ := hQ8
 have N8 := Fr.app N7 N8q
 have e8 : T8.heap = h0 := hh8
 obtain ⟨_, T9, Lc9, X9, hQ9, st9⟩ := own_callS (W := 0) (y := mN38) X8 hx hZ hown (oq hw 225 rfl) (oq hw 226 rfl) (oq hw 223 rfl) (oq hw 227 rfl) (by decide) (rmc l Z av0 hw [] a0 b0 n g sa sb nt gt (pp + min 8 nt) 8 fm wC h0 n0 Z0 hD hT ⟨by omega, by omega, by omega, by omega⟩ (fun q => ⟨by omega, by rw [show (pp + min 8 nt) = pp + 8 by omega]; exact hq 8 q⟩) hfm hFm hSC hwC) (by decide) (by decide) (g := (mkF m 71 #[rv a0, iv ((own_n (pp + min 8 nt))), rv sa] [(.int 8), (.ref sa), (.int (own_n (pp + min 8 nt))), (.ref a0)])) rfl (by rw [hml]; rfl) (argsL := [(.ref a0), (.int (own_n (pp + min 8 nt))), (.ref sa), (.int 8)]) (rest := []) (lenOf pd__Ljava_lang_String_ILjava_lang_String_I_I rfl) rfl (Y 52 rfl) rfl e8 (by decide : 0 + 0 ≤ _) (by decide : 0 + 0 ≤ _)
 obtain ⟨rfl, N9q, hh9⟩ := hQ9
 have N9 := Fr.app N8 N9q
 have e9 : T9.heap = h0 := hh9
 obtain ⟨_, T10, Lc10, X10, hQ10, st10⟩ := own_callS (W := 0) (y := mN38) X9 hx hZ hown (oq hw 225 rfl) (oq hw 226 rfl) (oq hw 223 rfl) (oq hw 227 rfl) (by decide) (rmc l Z av0 hw [] a0 b0 n g sa sb nt gt (pp + min 9 nt) 9 fm wC h0 n0 Z0 hD hT ⟨by omega, by omega, by omega, by omega⟩ (fun q => ⟨by omega, by rw [show (pp + min 9 nt) = pp + 9 by omega]; exact hq 9 q⟩) hfm hFm hSC hwC) (by decide) (by decide) (g := (mkF m 80 #[rv a0, iv ((own_n (pp + min 9 nt))), rv sa] [(.int 9), (.ref sa), (.int (own_n (pp + min 9 nt))), (.ref a0)])) rfl (by rw [hml]; rfl) (argsL := [(.ref a0), (.int (own_n (pp + min 9 nt))), (.ref sa), (.int 9)]) (rest := []) (lenOf pd__Ljava_lang_String_ILjava_lang_String_I_I rfl) rfl (Y 58 rfl) rfl e9 (by decide : 0 + 0 ≤ _) (by decide : 0 + 0 ≤ _)
 obtain ⟨rfl, N10q, hh10⟩ := hQ10
 have N10 := Fr.app N9 N10q
 have e10 : T10.heap = h0 := hh10
 have S11 : ∀ tz, oS p e below T10 (mkF m 85 #[rv a0, iv ((own_n (pp + nt))), rv sa] [(.int (own_n (pp + nt)))]) tz → P0 tz := fun tz kz => in0 tz (by
  refine XS.aloadN X0.here hx rfl (Y 0 rfl) rfl rfl ?_
  refine XS.iloadN X0.here hx rfl (Y 1 rfl) rfl ?_
  refine XS.aloadN X0.here hx rfl (Y 2 rfl) rfl rfl ?_
  refine XT.iconstV X0.here hx rfl (0 : Int32) (Y 3 rfl) (by decide) ?_
  refine st1 _ ?_
  show oS p e below T1 (mkF m 7 #[rv a0, iv (own_n pp), rv sa] [(.int (own_n (if 0 < nt then pp + 1 else pp)))]) _
  rw [show (if 0 < nt then pp + 1 else pp) = (pp + min 1 nt) by split <;> omega]
  show oS p e below T1 (mkF m 7 #[rv a0, iv (own_n pp), rv sa] [(.int (own_n (pp + min 1 nt)))]) _
  refine XS.istoreN X1.here hx rfl (Y 5 rfl) rfl (l' := #[rv a0, iv ((own_n (pp + min 1 nt))), rv sa]) rfl ?_
  refine XS.aloadN X1.here hx rfl (Y 6 rfl) rfl rfl ?_
  refine XS.iloadN X1.here hx rfl (Y 7 rfl) rfl ?_
  refine XS.aloadN X1.here hx rfl (Y 8 rfl) rfl rfl ?_
  show oS p e below T1 (mkF m 11 #[rv a0, iv ((own_n (pp + min 1 nt))), rv sa] [(.ref sa), (.int (own_n (pp + min 1 nt))), (.ref a0)]) _
  refine XT.iconstV X1.here hx rfl (1 : Int32) (Y 9 rfl) (by decide) ?_
  refine st2 _ ?_
  show oS p e below T2 (mkF m 15 #[rv a0, iv ((own_n (pp + min 1 nt))), rv sa] [(.int (own_n (if 1 < nt then (pp + min 1 nt) + 1 else (pp + min 1 nt))))]) _
  rw [show (if 1 < nt then (pp + min 1 nt) + 1 else (pp + min 1 nt)) = (pp + min 2 nt) by split <;> omega]
  show oS p e below T2 (mkF m 15 #[rv a0, iv ((own_n (pp + min 1 nt))), rv sa] [(.int (own_n (pp + min 2 nt)))]) _
  refine XS.istoreN X2.here hx rfl (Y 11 rfl) rfl (l' := #[rv a0, iv ((own_n (pp + min 2 nt))), rv sa]) rfl ?_
  refine XS.aloadN X2.here hx rfl (Y 12 rfl) rfl rfl ?_
  refine XS.iloadN X2.here hx rfl (Y 13 rfl) rfl ?_
  refine XS.aloadN X2.here hx rfl (Y 14 rfl) rfl rfl ?_
  refine XT.iconstV X2.here hx rfl (2 : Int32) (Y 15 rfl) (by decide) ?_
  refine st3 _ ?_
  show oS p e below T3 (mkF m 23 #[rv a0, iv ((own_n (pp + min 2 nt))), rv sa] [(.int (own_n (if 2 < nt then (pp + min 2 nt) + 1 else (pp + min 2 nt))))]) _
  rw [show (if 2 < nt then (pp + min 2 nt) + 1 else (pp + min 2 nt)) = (pp + min 3 nt) by split <;> omega]
  show oS p e below T3 (mkF m 23 #[rv a0, iv ((own_n (pp + min 2 nt))), rv sa] [(.int (own_n (pp + min 3 nt)))]) _
  refine XS.istoreN X3.here hx rfl (Y 17 rfl) rfl (l' := #[rv a0, iv ((own_n (pp + min 3 nt))), rv sa]) rfl ?_
  refine XS.aloadN X3.here hx rfl (Y 18 rfl) rfl rfl ?_
  refine XS.iloadN X3.here hx rfl (Y 19 rfl) rfl ?_
  refine XS.aloadN X3.here hx rfl (Y 20 rfl) rfl rfl ?_
  refine XT.iconstV X3.here hx rfl (3 : Int32) (Y 21 rfl) (by decide) ?_
  refine st4 _ ?_
  show oS p e below T4 (mkF m 31 #[rv a0, iv ((own_n (pp + min 3 nt))), rv sa] [(.int (own_n (if 3 < nt then (pp + min 3 nt) + 1 else (pp + min 3 nt))))]) _
  rw [show (if 3 < nt then (pp + min 3 nt) + 1 else (pp + min 3 nt)) = (pp + min 4 nt) by split <;> omega]
  show oS p e below T4 (mkF m 31 #[rv a0, iv ((own_n (pp + min 3 nt))), rv sa] [(.int (own_n (pp + min 4 nt)))]) _
  refine XS.istoreN X4.here hx rfl (Y 23 rfl) rfl (l' := #[rv a0, iv ((own_n (pp + min 4 nt))), rv sa]) rfl ?_
  refine XS.aloadN X4.here hx rfl (Y 24 rfl) rfl rfl ?_
  refine XS.iloadN X4.here hx rfl (Y 25 rfl) rfl ?_
  show oS p e below T4 (mkF m 34 #[rv a0, iv ((own_n (pp + min 4 nt))), rv sa] [(.int (own_n (pp + min 4 nt))), (.ref a0)]) _
  refine XS.aloadN X4.here hx rfl (Y 26 rfl) rfl rfl ?_
  refine XT.iconstV X4.here hx rfl (4 : Int32) (Y 27 rfl) (by decide) ?_
  refine st5 _ ?_
  show oS p e below T5 (mkF m 39 #[rv a0, iv ((own_n (pp + min 4 nt))), rv sa] [(.int (own_n (if 4 < nt then (pp + min 4 nt) + 1 else (pp + min 4 nt))))]) _
  rw [show (if 4 < nt then (pp + min 4 nt) + 1 else (pp + min 4 nt)) = (pp + min 5 nt) by split <;> omega]
  show oS p e below T5 (mkF m 39 #[rv a0, iv ((own_n (pp + min 4 nt))), rv sa] [(.int (own_n (pp + min 5 nt)))]) _
  refine XS.istoreN X5.here hx rfl (Y 29 rfl) rfl (l' := #[rv a0, iv ((own_n (pp + min 5 nt))), rv sa]) rfl ?_
  refine XS.aloadN X5.here hx rfl (Y 30 rfl) rfl rfl ?_
  refine XS.iloadN X5.here hx rfl (Y 31 rfl) rfl ?_
  refine XS.aloadN X5.here hx rfl (Y 32 rfl) rfl rfl ?_
  refine XT.iconstV X5.here hx rfl (5 : Int32) (Y 33 rfl) (by decide) ?_
  refine st6 _ ?_
  show oS p e below T6 (mkF m 47 #[rv a0, iv ((own_n (pp + min 5 nt))), rv sa] [(.int (own_n (if 5 < nt then (pp + min 5 nt) + 1 else (pp + min 5 nt))))]) _
  rw [show (if 5 < nt then (pp + min 5 nt) + 1 else (pp + min 5 nt)) = (pp + min 6 nt) by split <;> omega]
  show oS p e below T6 (mkF m 47 #[rv a0, iv ((own_n (pp + min 5 nt))), rv sa] [(.int (own_n (pp + min 6 nt)))]) _
  refine XS.istoreN X6.here hx rfl (Y 35 rfl) rfl (l' := #[rv a0, iv ((own_n (pp + min 6 nt))), rv sa]) rfl ?_
  refine XS.aloadN X6.here hx rfl (Y 36 rfl) rfl rfl ?_
  refine XS.iloadN X6.here hx rfl (Y 37 rfl) rfl ?_
  refine XS.aloadN X6.here hx rfl (Y 38 rfl) rfl rfl ?_
  refine XT.bipushV X6.here hx rfl (6 : Int32) (Y 39 rfl) (by decide) ?_
  refine st7 _ ?_
  show oS p e below T7 (mkF m 56 #[rv a0, iv ((own_n (pp + min 6 nt))), rv sa] [(.int (own_n (if 6 < nt then (pp + min 6 nt) + 1 else (pp + min 6 nt))))]) _
  rw [show (if 6 < nt then (pp + min 6 nt) + 1 else (pp + min 6 nt)) = (pp + min 7 nt) by split <;> omega]
  show oS p e below T7 (mkF m 56 #[rv a0, iv ((own_n (pp + min 6 nt))), rv sa] [(.int (own_n (pp + min 7 nt)))]) _
  refine XS.istoreN X7.here hx rfl (Y 41 rfl) rfl (l' := #[rv a0, iv ((own_n (pp + min 7 nt))), rv sa]) rfl ?_
  refine XS.aloadN X7.here hx rfl (Y 42 rfl) rfl rfl ?_
  show oS p e below T7 (mkF m 58 #[rv a0, iv ((own_n (pp + min 7 nt))), rv sa] [(.ref a0)]) _
  refine XS.iloadN X7.here hx rfl (Y 43 rfl) rfl ?_
  refine XS.aloadN X7.here hx rfl (Y 44 rfl) rfl rfl ?_
  refine XT.bipushV X7.here hx rfl (7 : Int32) (Y 45 rfl) (by decide) ?_
  refine st8 _ ?_
  show oS p e below T8 (mkF m 65 #[rv a0, iv ((own_n (pp + min 7 nt))), rv sa] [(.int (own_n (if 7 < nt then (pp + min 7 nt) + 1 else (pp + min 7 nt))))]) _
  rw [show (if 7 < nt then (pp + min 7 nt) + 1 else (pp + min 7 nt)) = (pp + min 8 nt) by split <;> omega]
  show oS p e below T8 (mkF m 65 #[rv a0, iv ((own_n (pp + min 7 nt))), rv sa] [(.int (own_n (pp + min 8 nt)))]) _
  refine XS.istoreN X8.here hx rfl (Y 47 rfl) rfl (l' := #[rv a0, iv ((own_n (pp + min 8 nt))), rv sa]) rfl ?_
  refine XS.aloadN X8.here hx rfl (Y 48 rfl) rfl rfl ?_
  refine XS.iloadN X8.here hx rfl (Y 49 rfl) rfl ?_
  refine XS.aloadN X8.here hx rfl (Y 50 rfl) rfl rfl ?_
  refine XT.bipushV X8.here hx rfl (8 : Int32) (Y 51 rfl) (by decide) ?_
  show oS p e below T8 (mkF m 71 #[rv a0, iv ((own_n (pp + min 8 nt))), rv sa] [(.int 8), (.ref sa), (.int (own_n (pp + min 8 nt))), (.ref a0)]) _
  refine st9 _ ?_
  show oS p e below T9 (mkF m 74 #[rv a0, iv ((own_n (pp + min 8 nt))), rv sa] [(.int (own_n (if 8 < nt then (pp + min 8 nt) + 1 else (pp + min 8 nt))))]) _
  rw [show (if 8 < nt then (pp + min 8 nt) + 1 else (pp + min 8 nt)) = (pp + min 9 nt) by split <;> omega]
  show oS p e below T9 (mkF m 74 #[rv a0, iv ((own_n (pp + min 8 nt))), rv sa] [(.int (own_n (pp + min 9 nt)))]) _
  refine XS.istoreN X9.here hx rfl (Y 53 rfl) rfl (l' := #[rv a0, iv ((own_n (pp + min 9 nt))), rv sa]) rfl ?_
  refine XS.aloadN X9.here hx rfl (Y 54 rfl) rfl rfl ?_
  refine XS.iloadN X9.here hx rfl (Y 55 rfl) rfl ?_
  refine XS.aloadN X9.here hx rfl (Y 56 rfl) rfl rfl ?_
  refine XT.bipushV X9.here hx rfl (9 : Int32) (Y 57 rfl) (by decide) ?_
  refine st10 _ ?_
  show oS p e below T10 (mkF m 83 #[rv a0, iv ((own_n (pp + min 9 nt))), rv sa] [(.int (own_n (if 9 < nt then (pp + min 9 nt) + 1 else (pp + min 9 nt))))]) _
  rw [show (if 9 < nt then (pp + min 9 nt) + 1 else (pp + min 9 nt)) = (pp + nt) by split <;> omega]
  show oS p e below T10 (mkF m 83 #[rv a0, iv ((own_n (pp + min 9 nt))), rv sa] [(.int (own_n (pp + nt)))]) _
  refine XS.istoreN X10.here hx rfl (Y 59 rfl) rfl (l' := #[rv a0, iv ((own_n (pp + nt))), rv sa]) rfl ?_
  show oS p e below T10 (mkF m 84 #[rv a0, iv ((own_n (pp + nt))), rv sa] []) _
  refine XS.iloadN X10.here hx rfl (Y 60 rfl) rfl ?_
  exact kz)
 obtain ⟨fs, hr, hrun, hended, hW, hsame⟩ := X10.leave (v := some (.int (own_n (pp + nt)))) (fun h => by rw [Bd.returns] at h; cases h)
 refine ⟨_, _, pre0 _ (S11 _ ?_), hrun, hended, _, _, rfl, ?_, ⟨_, rfl⟩, hW, hsame.mono (by decide) (by decide)⟩
 · exact retI X10 hx Bd.returns (Y 61 rfl) hr
 · show Qrmlit Z a0 b0 n g sa sb nt gt pp fm wC h0 n0 _ T10.heap _
   rw [e10]
   exact ⟨rfl, N10, rfl⟩
theorem D_rmAb : oL jdk_29_method_61_code [(0, .lload_n 0, 1), (1, .lconst 0, 1), (2, .lcmp, 1), (3, .ifCond .ge 8, 3), (6, .lload_n 0, 1), (7, .lneg, 1), (8, .goto 4, 3), (12, .lreturn, 1), (11, .lload_n 0, 1)] := by decide +kernel
def QrmAb (Z : State) (y : Int64) (h0 : Heap) (n0 : Nat) (v : Option Value) (h : Heap) (L : List Loc) : Prop := v = some (.long (own_abs y)) ∧ Fr n0 L ∧ h = h0
theorem rmAb (l : Launch) (Z : State) (av0 : Array Value) (hw : ∀ d ∈ tables_1, d.before av0 Z = true) (ws : List Jvm.Cond) (y : Int64) (h0 : Heap) (n0 : Nat) (Z0 : n0 ≤ h0.size)  :
   own_Met l mN40 jdk_29_method_61_code 2 (some .long) ws ({ frames := 0, cells := 0, slots := 0, locals := 0 } : Room) #[(.long y)] Z h0 (QrmAb Z y h0 n0) := by
 refine MetFree.of_bodySF (Jvm.Free.JP.mathPlain rfl (by decide +kernel)) hisR ?_
 intro p e s m args below meth c s₁ Bd hml0 hP hK
 obtain ⟨rfl, hZ, hh⟩ := hP
 have hml : c.maxLocals = 2 := hml0
 obtain ⟨hx, hby, hown, hnm, X0, e0⟩ := own_start Bd hml0 hh
 have N0 := Fr.nil n0
 have Y := @oY _ _ _ hby D_rmAb
 obtain ⟨P0, in0, pre0⟩ : ∃ P : State → Prop, (∀ tz, oS p e below s₁ (mkF m 0 #[.val (.long y), .second] []) tz → P tz) ∧ ∀ tz, P tz → Steps p.tables e below (s₁.setTop (entryFrame m #[(.long y)] 2)) tz := ⟨_, fun _ kz => kz, fun tz kz => castTop (by first | (simp [entryFrame, mkF, argsToLocals, Value.category]; done) | rfl) kz⟩
 have S1 : ∀ tz, oS p e below s₁ (mkF m 3 #[.val (.long y), .second] [(.int (XT.cmpL y (0 : Int64)))]) tz → P0 tz := fun tz kz => in0 tz (by
  refine XT.lloadN X0.here hx rfl (Y 0 rfl) rfl ?_
  refine XT.lconstV X0.here hx rfl (0 : Int64) (Y 1 rfl) (by decide) ?_
  refine XT.lcmp X0.here hx rfl (Y 2 rfl) rfl ?_
  exact kz)
 by_cases hc3_2 : y < (0 : Int64)
 ·have S3 : ∀ tz, oS p e below s₁ (mkF m 12 #[.val (.long y), .second] [(.long (-y))]) tz → P0 tz := fun tz kz => S1 tz (by
   refine XS.ifNo X0.here hx rfl (Y 3 rfl) rfl (XT.ll_ge_f hc3_2) ?_
   refine XT.lloadN X0.here hx rfl (Y 4 rfl) rfl ?_
   refine XT.lneg X0.here hx rfl (Y 5 rfl) rfl ?_
   refine XS.goto X0.here hx rfl (pc0 := 8) (pc' := 12) rfl (Y 6 rfl) (by decide) (by decide) ?_
   exact kz)
  obtain ⟨fs, hr, hrun, hended, hW, hsame⟩ := X0.leave (v := some (.long (-y))) (fun h => by rw [Bd.returns] at h; cases h)
  refine ⟨_, _, pre0 _ (S3 _ ?_), hrun, hended, _, _, rfl, ?_, ⟨_, rfl⟩, hW, hsame.mono (by decide) (by decide)⟩
  · exact X0.lreturnOut hx Bd.returns (Y 7 rfl) hr
  · show QrmAb Z y h0 n0 _ s₁.heap _
    rw [e0]
    exact ⟨congrArg (fun z => some (Value.long z)) (if_pos hc3_2).symm, N0, rfl⟩
 ·have S4 : ∀ tz, oS p e below s₁ (mkF m 12 #[.val (.long y), .second] [(.long y)]) tz → P0 tz := fun tz kz => S1 tz (by
   refine XS.ifYes X0.here hx rfl (pc0 := 3) (pc' := 11) rfl (Y 3 rfl) rfl (XT.ll_ge_t hc3_2) (by decide) (by decide) ?_
   refine XT.lloadN X0.here hx rfl (Y 8 rfl) rfl ?_
   exact kz)
  obtain ⟨fs, hr, hrun, hended, hW, hsame⟩ := X0.leave (v := some (.long y)) (fun h => by rw [Bd.returns] at h; cases h)
  refine ⟨_, _, pre0 _ (S4 _ ?_), hrun, hended, _, _, rfl, ?_, ⟨_, rfl⟩, hW, hsame.mono (by decide) (by decide)⟩
  · exact X0.lreturnOut hx Bd.returns (Y 7 rfl) hr
  · show QrmAb Z y h0 n0 _ s₁.heap _
    rw [e0]
    exact ⟨congrArg (fun z => some (Value.long z)) (if_neg hc3_2).symm, N0, rfl⟩
theorem D_rmd : oL method_5_code [(0, .iload_n 1, 1), (1, .ifCond .ge 5, 3), (6, .lload_n 2, 1), (7, .lload 4, 2), (9, .ldiv, 1), (10, .lstore 6, 2), (12, .lload 6, 2), (14, .lconst 0, 1), (15, .lcmp, 1), (16, .ifCond .ne 12, 3), (19, .lload 4, 2), (21, .lconst 1, 1), (22, .lcmp, 1), (23, .ifCond .eq 5, 3), (28, .lload 6, 2), (30, .ldc2_w 59, 3), (33, .lrem, 1), (34, .invokestatic 61, 3), (37, .l2i, 1), (38, .istore 8, 2), (40, .iload_n 1, 1), (41, .aload_n 0, 1), (42, .invokevirtual 47, 3), (45, .if_icmp .ge 17, 3), (48, .aload_n 0, 1), (49, .iload_n 1, 1), (50, .invokevirtual 51, 3), (53, .bipush 48, 2), (55, .iload 8, 2), (57, .iadd, 1), (58, .i2c, 1), (59, .if_icmp .eq 5, 3), (64, .iload_n 1, 1), (65, .iconst 1, 1), (66, .iadd, 1), (67, .ireturn, 1), (26, .iload_n 1, 1), (27, .ireturn, 1)] := by decide +kernel
theorem pd__J_J : parseMethodDescriptor "(J)J" = some ⟨[.long], some .long⟩ := by decide +kernel
def Qrmd (Z : State) (a0 : Addr) (b0 : Addr) (n : Nat) (g : Nat → Int32) (pp : Nat) (rr : Nat) (y : Int64) (w : Int64) (fm : Value) (wC : Int32) (h0 : Heap) (n0 : Nat) (v : Option Value) (h : Heap) (L : List Loc) : Prop := v = some (.int (own_n (pp + if y / w = 0 ∧ ¬ w = 1 then 0 else 1))) ∧ Fr n0 L ∧ h = h0
theorem rmd (l : Launch) (Z : State) (av0 : Array Value) (hw : ∀ d ∈ tables_1, d.before av0 Z = true) (ws : List Jvm.Cond) (a0 : Addr) (b0 : Addr) (n : Nat) (g : Nat → Int32) (pp : Nat) (rr : Nat) (y : Int64) (w : Int64) (fm : Value) (wC : Int32) (h0 : Heap) (n0 : Nat) (Z0 : n0 ≤ h0.size) (hD : own_Str Z h0 a0 b0 n g) (hbd : pp ≤ n ∧ n < 1000) (hw0 : w ≠ 0) (hq : ¬ (y / w = 0 ∧ ¬ w = 1) → pp < n ∧ rr < 10 ∧ g pp = own_n (48 + rr) ∧ (own_abs (y / w - y / w / 10 * 10)).toInt32 = own_n rr) (hfm : fm.isRef = true) (hFm : Sta Z h0 "jdk/internal/util/Preconditions" "SIOOBE_FORMATTER" "Ljava/util/function/BiFunction;" fm) (hSC : Sta Z h0 "java/lang/String" "COMPACT_STRINGS" "Z" (.int wC)) (hwC : ¬ wC = (0 : Int32)) :
   own_Met l mN41 method_5_code 9 (some .int) ws ({ frames := 4, cells := 0, slots := 0, locals := 53 } : Room) #[(.ref a0), (.int (own_n pp)), (.long y), (.long w)] Z h0 (Qrmd Z a0 b0 n g pp rr y w fm wC h0 n0) := by
 refine MetFree.of_bodySF (plainFor_of_name pn_MessageToStringPinLaw) hisR ?_
 intro p e s m args below meth c s₁ Bd hml0 hP hK
 obtain ⟨rfl, hZ, hh⟩ := hP
 have hml : c.maxLocals = 9 := hml0
 obtain ⟨hx, hby, hown, hnm, X0, e0⟩ := own_start Bd hml0 hh
 have N0 := Fr.nil n0
 have Y := @oY _ _ _ hby D_rmd
 obtain ⟨P0, in0, pre0⟩ : ∃ P : State → Prop, (∀ tz, oS p e below s₁ (mkF m 0 #[rv a0, iv (own_n pp), .val (.long y), .second, .val (.long w), .second, .unset, .unset, .unset] []) tz → P tz) ∧ ∀ tz, P tz → Steps p.tables e below (s₁.setTop (entryFrame m #[(.ref a0), (.int (own_n pp)), (.long y), (.long w)] 9)) tz := ⟨_, fun _ kz => kz, fun tz kz => castTop (by first | (simp [entryFrame, mkF, argsToLocals, Value.category]; done) | rfl) kz⟩
 have S1 : ∀ tz, oS p e below s₁ (mkF m 16 #[rv a0, iv (own_n pp), .val (.long y), .second, .val (.long w), .second, .val (.long (y / w)), .second, .unset] [(.int (XT.cmpL (y / w) (0 : Int64)))]) tz → P0 tz := fun tz kz => in0 tz (by
  refine XS.iloadN X0.here hx rfl (Y 0 rfl) rfl ?_
  refine XS.ifYes X0.here hx rfl (pc0 := 1) (pc' := 6) rfl (Y 1 rfl) rfl (XT.i0_ge_t (own_nge (by omega))) (by decide) (by decide) ?_
  refine XT.lloadN X0.here hx rfl (Y 2 rfl) rfl ?_
  refine XT.lload X0.here hx rfl (Y 3 rfl) rfl ?_
  refine XT.ldiv X0.here hx rfl (Y 4 rfl) rfl hw0 ?_
  refine XT.lstore X0.here hx rfl (Y 5 rfl) rfl (l' := #[rv a0, iv (own_n pp), .val (.long y), .second, .val (.long w), .second, .val (.long (y / w)), .second, .unset]) rfl ?_
  refine XT.lload X0.here hx rfl (Y 6 rfl) rfl ?_
  refine XT.lconstV X0.here hx rfl (0 : Int64) (Y 7 rfl) (by decide) ?_
  refine XT.lcmp X0.here hx rfl (Y 8 rfl) rfl ?_
  exact kz)
 by_cases hc16_2 : (y / w) = (0 : Int64)
 ·have S3 : ∀ tz, oS p e below s₁ (mkF m 23 #[rv a0, iv (own_n pp), .val (.long y), .second, .val (.long w), .second, .val (.long (y / w)), .second, .unset] [(.int (XT.cmpL w (1 : Int64)))]) tz → P0 tz := fun tz kz => S1 tz (by
   refine XS.ifNo X0.here hx rfl (Y 9 rfl) rfl (XT.ll_ne_f hc16_2) ?_
   show oS p e below s₁ (mkF m 19 #[rv a0, iv (own_n pp), .val (.long y), .second, .val (.long w), .second, .val (.long (y / w)), .second, .unset] []) _
   refine XT.lload X0.here hx rfl (Y 10 rfl) rfl ?_
   refine XT.lconstV X0.here hx rfl (1 : Int64) (Y 11 rfl) (by decide) ?_
   refine XT.lcmp X0.here hx rfl (Y 12 rfl) rfl ?_
   exact kz)
  by_cases hc23_4 : w = (1 : Int64)
  ·have hq' := hq (fun z => z.2 hc23_4)
   obtain ⟨_, T5, Lc5, X5, hQ5, st5⟩ := own_callS (W := 0) (y := mN40) X0 hx hZ hown (oq hw 276 rfl) (oq hw 277 rfl) (oq hw 128 rfl) (oq hw 278 rfl) (by decide) (rmAb l Z av0 hw [] ((y / w) - ((y / w) / (10 : Int64)) * (10 : Int64)) h0 n0 Z0 ) (by decide) (by decide) (g := (mkF m 34 #[rv a0, iv (own_n pp), .val (.long y), .second, .val (.long w), .second, .val (.long (y / w)), .second, .unset] [(.long ((y / w) - ((y / w) / (10 : Int64)) * (10 : Int64)))])) rfl (by rw [hml]; rfl) (argsL := [(.long ((y / w) - ((y / w) / (10 : Int64)) * (10 : Int64)))]) (rest := []) (lenOf pd__J_J rfl) rfl (Y 17 rfl) rfl e0 (by decide : 0 + 0 ≤ _) (by decide : 0 + 0 ≤ _)
   obtain ⟨rfl, N5q, hh5⟩ := hQ5
   have N5 := Fr.app N0 N5q
   have e5 : T5.heap = h0 := hh5
   obtain ⟨_, T6, Lc6, X6, hQ6, st6⟩ := own_virtual (W := 1) (y := mN1) (z := mN1) X5 hx hZ hown (oq hw 228 rfl) (oq hw 77 rfl) (notFace_of_selects (args := #[]) (mvT hZ (oq hw 79 rfl))) (oq hw 79 rfl) (oq hw 78 rfl) (oq hw 80 rfl) (oq hw 1 rfl) (by decide) (rmLen l Z av0 hw [] a0 b0 n g wC h0 n0 Z0 (own_Str.mk hD.E hD.C hD.V hD.A) (by omega) hSC hwC) (by decide) (by decide) hD.E (g := (mkF m 42 #[rv a0, iv (own_n pp), .val (.long y), .second, .val (.long w), .second, .val (.long (y / w)), .second, iv (own_n rr)] [(.ref a0), (.int (own_n pp))])) rfl (by rw [hml]; rfl) (argsL := []) (rest := [(.int (own_n pp))]) (lenOf pd__I rfl) rfl (Y 22 rfl) rfl e5 (by decide : 0 + 0 ≤ _) (by decide : 0 + 0 ≤ _)
   obtain ⟨rfl, N6q, hh6⟩ := hQ6
   have N6 := Fr.app N5 N6q
   have e6 : T6.heap = h0 := hh6
   obtain ⟨_, T7, Lc7, X7, hQ7, st7⟩ := own_virtual (W := 0) (y := mN37) (z := mN37) X6 hx hZ hown (oq hw 229 rfl) (oq hw 230 rfl) (notFace_of_selects (args := #[]) (mvT hZ (oq hw 232 rfl))) (oq hw 232 rfl) (oq hw 231 rfl) (oq hw 233 rfl) (oq hw 1 rfl) (by decide) (rmCh l Z av0 hw [] a0 b0 n g pp fm wC h0 n0 Z0 (own_Str.mk hD.E hD.C hD.V hD.A) ⟨by omega, by omega⟩ hfm hFm hSC hwC) (by decide) (by decide) hD.E (g := (mkF m 50 #[rv a0, iv (own_n pp), .val (.long y), .second, .val (.long w), .second, .val (.long (y / w)), .second, iv (own_n rr)] [(.int (own_n pp)), (.ref a0)])) rfl (by rw [hml]; rfl) (argsL := [(.int (own_n pp))]) (rest := []) (lenOf pd__I_C rfl) rfl (Y 26 rfl) rfl e6 (by decide : 0 + 0 ≤ _) (by decide : 0 + 0 ≤ _)
   obtain ⟨rfl, N7q, hh7⟩ := hQ7
   have N7 := Fr.app N6 N7q
   have e7 : T7.heap = h0 := hh7
   have S8 : ∀ tz, oS p e below T7 (mkF m 67 #[rv a0, iv (own_n pp), .val (.long y), .second, .val (.long w), .second, .val (.long (y / w)), .second, iv (own_n rr)] [(.int (own_n (pp + 1)))]) tz → P0 tz := fun tz kz => S3 tz (by
    refine XS.ifYes X0.here hx rfl (pc0 := 23) (pc' := 28) rfl (Y 13 rfl) rfl (XT.ll_eq_t hc23_4) (by decide) (by decide) ?_
    refine XT.lload X0.here hx rfl (Y 14 rfl) rfl ?_
    refine X0.ldc2J hx hown (mvT hZ (oq hw 275 rfl)) rfl (Y 15 rfl) ?_
    refine XT.lrem X0.here hx rfl (Y 16 rfl) rfl (by decide) ?_
    refine st5 _ ?_
    refine XT.l2i X5.here hx rfl (Y 18 rfl) rfl ?_
    show oS p e below T5 (mkF m 38 #[rv a0, iv (own_n pp), .val (.long y), .second, .val (.long w), .second, .val (.long (y / w)), .second, .unset] [(.int ((own_abs ((y / w) - ((y / w) / (10 : Int64)) * (10 : Int64)))).toInt32)]) _
    rw [hq'.2.2.2]
    show oS p e below T5 (mkF m 38 #[rv a0, iv (own_n pp), .val (.long y), .second, .val (.long w), .second, .val (.long (y / w)), .second, .unset] [(.int (own_n rr))]) _
    refine XS.istore X5.here hx rfl (Y 19 rfl) rfl (l' := #[rv a0, iv (own_n pp), .val (.long y), .second, .val (.long w), .second, .val (.long (y / w)), .second, iv (own_n rr)]) rfl ?_
    refine XS.iloadN X5.here hx rfl (Y 20 rfl) rfl ?_
    refine XS.aloadN X5.here hx rfl (Y 21 rfl) rfl rfl ?_
    refine st6 _ ?_
    refine XS.icmpNo X6.here hx rfl (Y 23 rfl) rfl (XT.ii_ge_f (own_nlt (by omega) (by omega)).2) ?_
    refine XS.aloadN X6.here hx rfl (Y 24 rfl) rfl rfl ?_
    refine XS.iloadN X6.here hx rfl (Y 25 rfl) rfl ?_
    refine st7 _ ?_
    refine XT.bipushV X7.here hx rfl (48 : Int32) (Y 27 rfl) (by decide) ?_
    refine XS.iload X7.here hx rfl (Y 28 rfl) rfl ?_
    show oS p e below T7 (mkF m 57 #[rv a0, iv (own_n pp), .val (.long y), .second, .val (.long w), .second, .val (.long (y / w)), .second, iv (own_n rr)] [(.int (own_n rr)), (.int 48), (.int (own_ca (g pp)))]) _
    refine XS.iadd X7.here hx rfl (Y 29 rfl) rfl ?_
    show oS p e below T7 (mkF m 58 #[rv a0, iv (own_n pp), .val (.long y), .second, .val (.long w), .second, .val (.long (y / w)), .second, iv (own_n rr)] [(.int ((48 : Int32) + (own_n rr))), (.int (own_ca (g pp)))]) _
    rw [show (48 : Int32) + own_n rr = own_n (48 + rr) from own_nplus 48 rr]
    show oS p e below T7 (mkF m 58 #[rv a0, iv (own_n pp), .val (.long y), .second, .val (.long w), .second, .val (.long (y / w)), .second, iv (own_n rr)] [(.int (own_n (48 + rr))), (.int (own_ca (g pp)))]) _
    refine XT.i2c X7.here hx rfl (Y 30 rfl) rfl ?_
    refine XS.icmpYes X7.here hx rfl (pc0 := 59) (pc' := 64) rfl (Y 31 rfl) rfl (XT.ii_eq_t (by rw [hq'.2.2.1]; exact own_cad' (by omega))) (by decide) (by decide) ?_
    refine XS.iloadN X7.here hx rfl (Y 32 rfl) rfl ?_
    refine XT.iconstV X7.here hx rfl (1 : Int32) (Y 33 rfl) (by decide) ?_
    refine XS.iadd X7.here hx rfl (Y 34 rfl) rfl ?_
    show oS p e below T7 (mkF m 67 #[rv a0, iv (own_n pp), .val (.long y), .second, .val (.long w), .second, .val (.long (y / w)), .second, iv (own_n rr)] [(.int ((own_n pp) + (1 : Int32)))]) _
    rw [own_nadd (by omega)]
    show oS p e below T7 (mkF m 67 #[rv a0, iv (own_n pp), .val (.long y), .second, .val (.long w), .second, .val (.long (y / w)), .second, iv (own_n rr)] [(.int (own_n (pp + 1)))]) _
    exact kz)
   obtain ⟨fs, hr, hrun, hended, hW, hsame⟩ := X7.leave (v := some (.int (own_n (pp + 1)))) (fun h => by rw [Bd.returns] at h; cases h)
   refine ⟨_, _, pre0 _ (S8 _ ?_), hrun, hended, _, _, rfl, ?_, ⟨_, rfl⟩, hW, hsame.mono (by decide) (by decide)⟩
   · exact retI X7 hx Bd.returns (Y 35 rfl) hr
   · show Qrmd Z a0 b0 n g pp rr y w fm wC h0 n0 _ T7.heap _
     rw [e7]
     exact ⟨by rw [if_neg (fun z => z.2 hc23_4)], N7, rfl⟩
  ·have S9 : ∀ tz, oS p e below s₁ (mkF m 27 #[rv a0, iv (own_n pp), .val (.long y), .second, .val (.long w), .second, .val (.long (y / w)), .second, .unset] [(.int (own_n pp))]) tz → P0 tz := fun tz kz => S3 tz (by
    refine XS.ifNo X0.here hx rfl (Y 13 rfl) rfl (XT.ll_eq_f hc23_4) ?_
    refine XS.iloadN X0.here hx rfl (Y 36 rfl) rfl ?_
    exact kz)
   obtain ⟨fs, hr, hrun, hended, hW, hsame⟩ := X0.leave (v := some (.int (own_n pp))) (fun h => by rw [Bd.returns] at h; cases h)
   refine ⟨_, _, pre0 _ (S9 _ ?_), hrun, hended, _, _, rfl, ?_, ⟨_, rfl⟩, hW, hsame.mono (by decide) (by decide)⟩
   · exact retI X0 hx Bd.returns (Y 37 rfl) hr
   · show Qrmd Z a0 b0 n g pp rr y w fm wC h0 n0 _ s₁.heap _
     rw [e0]
     exact ⟨by rw [if_pos ⟨hc16_2, hc23_4⟩]; rfl, N0, rfl⟩
 ·have hq' := hq (fun z => hc16_2 z.1)
  obtain ⟨_, T10, Lc10, X10, hQ10, st10⟩ := own_callS (W := 0) (y := mN40) X0 hx hZ hown (oq hw 276 rfl) (oq hw 277 rfl) (oq hw 128 rfl) (oq hw 278 rfl) (by decide) (rmAb l Z av0 hw [] ((y / w) - ((y / w) / (10 : Int64)) * (10 : Int64)) h0 n0 Z0 ) (by decide) (by decide) (g := (mkF m 34 #[rv a0, iv (own_n pp), .val (.long y), .second, .val (.long w), .second, .val (.long (y / w)), .second, .unset] [(.long ((y / w) - ((y / w) / (10 : Int64)) * (10 : Int64)))])) rfl (by rw [hml]; rfl) (argsL := [(.long ((y / w) - ((y / w) / (10 : Int64)) * (10 : Int64)))]) (rest := []) (lenOf pd__J_J rfl) rfl (Y 17 rfl) rfl e0 (by decide : 0 + 0 ≤ _) (by decide : 0 + 0 ≤ _)
  obtain ⟨rfl, N10q, hh10⟩ := hQ10
  have N10 := Fr.app N0 N10q
  have e10 : T10.heap = h0 := hh10
  obtain ⟨_, T11, Lc11, X11, hQ11, st11⟩ := own_virtual (W := 1) (y := mN1) (z := mN1) X10 hx hZ hown (oq hw 228 rfl) (oq hw 77 rfl) (notFace_of_selects (args := #[]) (mvT hZ (oq hw 79 rfl))) (oq hw 79 rfl) (oq hw 78 rfl) (oq hw 80 rfl) (oq hw 1 rfl) (by decide) (rmLen l Z av0 hw [] a0 b0 n g wC h0 n0 Z0 (own_Str.mk hD.E hD.C hD.V hD.A) (by omega) hSC hwC) (by decide) (by decide) hD.E (g := (mkF m 42 #[rv a0, iv (own_n pp), .val (.long y), .second, .val (.long w), .second, .val (.long (y / w)), .second, iv (own_n rr)] [(.ref a0), (.int (own_n pp))])) rfl (by rw [hml]; rfl) (argsL := []) (rest := [(.int (own_n pp))]) (lenOf pd__I rfl) rfl (Y 22 rfl) rfl e10 (by decide : 0 + 0 ≤ _) (by decide : 0 + 0 ≤ _)
  obtain ⟨rfl, N11q, hh11⟩ := hQ11
  have N11 := Fr.app N10 N11q
  have e11 : T11.heap = h0 := hh11
  obtain ⟨_, T12, Lc12, X12, hQ12, st12⟩ := own_virtual (W := 0) (y := mN37) (z := mN37) X11 hx hZ hown (oq hw 229 rfl) (oq hw 230 rfl) (notFace_of_selects (args := #[]) (mvT hZ (oq hw 232 rfl))) (oq hw 232 rfl) (oq hw 231 rfl) (oq hw 233 rfl) (oq hw 1 rfl) (by decide) (rmCh l Z av0 hw [] a0 b0 n g pp fm wC h0 n0 Z0 (own_Str.mk hD.E hD.C hD.V hD.A) ⟨by omega, by omega⟩ hfm hFm hSC hwC) (by decide) (by decide) hD.E (g := (mkF m 50 #[rv a0, iv (own_n pp), .val (.long y), .second, .val (.long w), .second, .val (.long (y / w)), .second, iv (own_n rr)] [(.int (own_n pp)), (.ref a0)])) rfl (by rw [hml]; rfl) (argsL := [(.int (own_n pp))]) (rest := []) (lenOf pd__I_C rfl) rfl (Y 26 rfl) rfl e11 (by decide : 0 + 0 ≤ _) (by decide : 0 + 0 ≤ _)
  obtain ⟨rfl, N12q, hh12⟩ := hQ12
  have N12 := Fr.app N11 N12q
  have e12 : T12.heap = h0 := hh12
  have S13 : ∀ tz, oS p e below T12 (mkF m 67 #[rv a0, iv (own_n pp), .val (.long y), .second, .val (.long w), .second, .val (.long (y / w)), .second, iv (own_n rr)] [(.int (own_n (pp + 1)))]) tz → P0 tz := fun tz kz => S1 tz (by
   refine XS.ifYes X0.here hx rfl (pc0 := 16) (pc' := 28) rfl (Y 9 rfl) rfl (XT.ll_ne_t hc16_2) (by decide) (by decide) ?_
   show oS p e below s₁ (mkF m 28 #[rv a0, iv (own_n pp), .val (.long y), .second, .val (.long w), .second, .val (.long (y / w)), .second, .unset] []) _
   refine XT.lload X0.here hx rfl (Y 14 rfl) rfl ?_
   refine X0.ldc2J hx hown (mvT hZ (oq hw 275 rfl)) rfl (Y 15 rfl) ?_
   refine XT.lrem X0.here hx rfl (Y 16 rfl) rfl (by decide) ?_
   refine st10 _ ?_
   refine XT.l2i X10.here hx rfl (Y 18 rfl) rfl ?_
   show oS p e below T10 (mkF m 38 #[rv a0, iv (own_n pp), .val (.long y), .second, .val (.long w), .second, .val (.long (y / w)), .second, .unset] [(.int ((own_abs ((y / w) - ((y / w) / (10 : Int64)) * (10 : Int64)))).toInt32)]) _
   rw [hq'.2.2.2]
   show oS p e below T10 (mkF m 38 #[rv a0, iv (own_n pp), .val (.long y), .second, .val (.long w), .second, .val (.long (y / w)), .second, .unset] [(.int (own_n rr))]) _
   refine XS.istore X10.here hx rfl (Y 19 rfl) rfl (l' := #[rv a0, iv (own_n pp), .val (.long y), .second, .val (.long w), .second, .val (.long (y / w)), .second, iv (own_n rr)]) rfl ?_
   refine XS.iloadN X10.here hx rfl (Y 20 rfl) rfl ?_
   refine XS.aloadN X10.here hx rfl (Y 21 rfl) rfl rfl ?_
   refine st11 _ ?_
   show oS p e below T11 (mkF m 45 #[rv a0, iv (own_n pp), .val (.long y), .second, .val (.long w), .second, .val (.long (y / w)), .second, iv (own_n rr)] [(.int (own_n n)), (.int (own_n pp))]) _
   refine XS.icmpNo X11.here hx rfl (Y 23 rfl) rfl (XT.ii_ge_f (own_nlt (by omega) (by omega)).2) ?_
   refine XS.aloadN X11.here hx rfl (Y 24 rfl) rfl rfl ?_
   refine XS.iloadN X11.here hx rfl (Y 25 rfl) rfl ?_
   refine st12 _ ?_
   refine XT.bipushV X12.here hx rfl (48 : Int32) (Y 27 rfl) (by decide) ?_
   refine XS.iload X12.here hx rfl (Y 28 rfl) rfl ?_
   refine XS.iadd X12.here hx rfl (Y 29 rfl) rfl ?_
   show oS p e below T12 (mkF m 58 #[rv a0, iv (own_n pp), .val (.long y), .second, .val (.long w), .second, .val (.long (y / w)), .second, iv (own_n rr)] [(.int ((48 : Int32) + (own_n rr))), (.int (own_ca (g pp)))]) _
   rw [show (48 : Int32) + own_n rr = own_n (48 + rr) from own_nplus 48 rr]
   show oS p e below T12 (mkF m 58 #[rv a0, iv (own_n pp), .val (.long y), .second, .val (.long w), .second, .val (.long (y / w)), .second, iv (own_n rr)] [(.int (own_n (48 + rr))), (.int (own_ca (g pp)))]) _
   refine XT.i2c X12.here hx rfl (Y 30 rfl) rfl ?_
   refine XS.icmpYes X12.here hx rfl (pc0 := 59) (pc' := 64) rfl (Y 31 rfl) rfl (XT.ii_eq_t (by rw [hq'.2.2.1]; exact own_cad' (by omega))) (by decide) (by decide) ?_
   show oS p e below T12 (mkF m 64 #[rv a0, iv (own_n pp), .val (.long y), .second, .val (.long w), .second, .val (.long (y / w)), .second, iv (own_n rr)] []) _
   refine XS.iloadN X12.here hx rfl (Y 32 rfl) rfl ?_
   refine XT.iconstV X12.here hx rfl (1 : Int32) (Y 33 rfl) (by decide) ?_
   refine XS.iadd X12.here hx rfl (Y 34 rfl) rfl ?_
   show oS p e below T12 (mkF m 67 #[rv a0, iv (own_n pp), .val (.long y), .second, .val (.long w), .second, .val (.long (y / w)), .second, iv (own_n rr)] [(.int ((own_n pp) + (1 : Int32)))]) _
   rw [own_nadd (by omega)]
   show oS p e below T12 (mkF m 67 #[rv a0, iv (own_n pp), .val (.long y), .second, .val (.long w), .second, .val (.long (y / w)), .second, iv (own_n rr)] [(.int (own_n (pp + 1)))]) _
   exact kz)
  obtain ⟨fs, hr, hrun, hended, hW, hsame⟩ := X12.leave (v := some (.int (own_n (pp + 1)))) (fun h => by rw [Bd.returns] at h; cases h)
  refine ⟨_, _, pre0 _ (S13 _ ?_), hrun, hended, _, _, rfl, ?_, ⟨_, rfl⟩, hW, hsame.mono (by decide) (by decide)⟩
  · exact retI X12 hx Bd.returns (Y 35 rfl) hr
  · show Qrmd Z a0 b0 n g pp rr y w fm wC h0 n0 _ T12.heap _
    rw [e12]
    exact ⟨by rw [if_neg (fun z => hc16_2 z.1)], N12, rfl⟩
theorem D_rmnum : oL method_6_code [(0, .iload_n 1, 1), (1, .ifCond .ge 5, 3), (6, .lload_n 2, 1), (7, .lconst 0, 1), (8, .lcmp, 1), (9, .ifCond .ge 27, 3), (12, .iload_n 1, 1), (13, .aload_n 0, 1), (14, .invokevirtual 47, 3), (17, .if_icmp .ge 13, 3), (20, .aload_n 0, 1), (21, .iload_n 1, 1), (22, .invokevirtual 51, 3), (25, .bipush 45, 2), (27, .if_icmp .eq 5, 3), (32, .iload_n 1, 1), (33, .iconst 1, 1), (34, .iadd, 1), (35, .istore_n 1, 1), (36, .aload_n 0, 1), (37, .iload_n 1, 1), (38, .lload_n 2, 1), (39, .ldc2_w 67, 3), (42, .invokestatic 69, 3), (45, .istore_n 1, 1), (46, .aload_n 0, 1), (47, .iload_n 1, 1), (48, .lload_n 2, 1), (49, .ldc2_w 73, 3), (52, .invokestatic 69, 3), (55, .istore_n 1, 1), (56, .aload_n 0, 1), (57, .iload_n 1, 1), (58, .lload_n 2, 1), (59, .ldc2_w 75, 3), (62, .invokestatic 69, 3), (65, .istore_n 1, 1), (66, .aload_n 0, 1), (67, .iload_n 1, 1), (68, .lload_n 2, 1), (69, .ldc2_w 77, 3), (72, .invokestatic 69, 3), (75, .istore_n 1, 1), (76, .aload_n 0, 1), (77, .iload_n 1, 1), (78, .lload_n 2, 1), (79, .ldc2_w 79, 3), (82, .invokestatic 69, 3), (85, .istore_n 1, 1), (86, .aload_n 0, 1), (87, .iload_n 1, 1), (88, .lload_n 2, 1), (89, .ldc2_w 81, 3), (92, .invokestatic 69, 3), (95, .istore_n 1, 1), (96, .aload_n 0, 1), (97, .iload_n 1, 1), (98, .lload_n 2, 1), (99, .ldc2_w 83, 3), (102, .invokestatic 69, 3), (105, .istore_n 1, 1), (106, .aload_n 0, 1), (107, .iload_n 1, 1), (108, .lload_n 2, 1), (109, .ldc2_w 85, 3), (112, .invokestatic 69, 3), (115, .istore_n 1, 1), (116, .aload_n 0, 1), (117, .iload_n 1, 1), (118, .lload_n 2, 1), (119, .ldc2_w 87, 3), (122, .invokestatic 69, 3), (125, .istore_n 1, 1), (126, .aload_n 0, 1), (127, .iload_n 1, 1), (128, .lload_n 2, 1), (129, .ldc2_w 89, 3), (132, .invokestatic 69, 3), (135, .istore_n 1, 1), (136, .aload_n 0, 1), (137, .iload_n 1, 1), (138, .lload_n 2, 1), (139, .ldc2_w 91, 3), (142, .invokestatic 69, 3), (145, .istore_n 1, 1), (146, .aload_n 0, 1), (147, .iload_n 1, 1), (148, .lload_n 2, 1), (149, .ldc2_w 93, 3), (152, .invokestatic 69, 3), (155, .istore_n 1, 1), (156, .aload_n 0, 1), (157, .iload_n 1, 1), (158, .lload_n 2, 1), (159, .ldc2_w 95, 3), (162, .invokestatic 69, 3), (165, .istore_n 1, 1), (166, .aload_n 0, 1), (167, .iload_n 1, 1), (168, .lload_n 2, 1), (169, .ldc2_w 97, 3), (172, .invokestatic 69, 3), (175, .istore_n 1, 1), (176, .aload_n 0, 1), (177, .iload_n 1, 1), (178, .lload_n 2, 1), (179, .ldc2_w 99, 3), (182, .invokestatic 69, 3), (185, .istore_n 1, 1), (186, .aload_n 0, 1), (187, .iload_n 1, 1), (188, .lload_n 2, 1), (189, .ldc2_w 101, 3), (192, .invokestatic 69, 3), (195, .istore_n 1, 1), (196, .aload_n 0, 1), (197, .iload_n 1, 1), (198, .lload_n 2, 1), (199, .ldc2_w 103, 3), (202, .invokestatic 69, 3), (205, .istore_n 1, 1), (206, .aload_n 0, 1), (207, .iload_n 1, 1), (208, .lload_n 2, 1), (209, .ldc2_w 59, 3), (212, .invokestatic 69, 3), (215, .istore_n 1, 1), (216, .aload_n 0, 1), (217, .iload_n 1, 1), (218, .lload_n 2, 1), (219, .lconst 1, 1), (220, .invokestatic 69, 3), (223, .istore_n 1, 1), (224, .iload_n 1, 1), (225, .ireturn, 1)] := by decide +kernel
theorem pd__Ljava_lang_String_IJJ_I : parseMethodDescriptor "(Ljava/lang/String;IJJ)I" = some ⟨[(.object "java/lang/String"), .int, .long, .long], some .int⟩ := by decide +kernel
def Qrmnum (Z : State) (a0 : Addr) (b0 : Addr) (n : Nat) (g : Nat → Int32) (pp : Nat) (y : Int64) (fm : Value) (wC : Int32) (h0 : Heap) (n0 : Nat) (v : Option Value) (h : Heap) (L : List Loc) : Prop := v = some (.int (own_n (pp + own_sz y.toInt))) ∧ Fr n0 L ∧ h = h0
theorem rmnum (l : Launch) (Z : State) (av0 : Array Value) (hw : ∀ d ∈ tables_1, d.before av0 Z = true) (ws : List Jvm.Cond) (a0 : Addr) (b0 : Addr) (n : Nat) (g : Nat → Int32) (pp : Nat) (y : Int64) (fm : Value) (wC : Int32) (h0 : Heap) (n0 : Nat) (Z0 : n0 ≤ h0.size) (hD : own_Str Z h0 a0 b0 n g) (hbd : pp + own_sz y.toInt ≤ n ∧ n < 1000) (hq : ∀ k, k < own_sz y.toInt → g (pp + k) = own_num y.toInt k) (hfm : fm.isRef = true) (hFm : Sta Z h0 "jdk/internal/util/Preconditions" "SIOOBE_FORMATTER" "Ljava/util/function/BiFunction;" fm) (hSC : Sta Z h0 "java/lang/String" "COMPACT_STRINGS" "Z" (.int wC)) (hwC : ¬ wC = (0 : Int32)) :
   own_Met l mN42 method_6_code 4 (some .int) ws ({ frames := 5, cells := 0, slots := 0, locals := 73 } : Room) #[(.ref a0), (.int (own_n pp)), (.long y)] Z h0 (Qrmnum Z a0 b0 n g pp y fm wC h0 n0) := by
 refine MetFree.of_bodySF (plainFor_of_name pn_MessageToStringPinLaw) hisR ?_
 intro p e s m args below meth c s₁ Bd hml0 hP hK
 obtain ⟨rfl, hZ, hh⟩ := hP
 have hml : c.maxLocals = 4 := hml0
 obtain ⟨hx, hby, hown, hnm, X0, e0⟩ := own_start Bd hml0 hh
 have N0 := Fr.nil n0
 have Y := @oY _ _ _ hby D_rmnum
 obtain ⟨P0, in0, pre0⟩ : ∃ P : State → Prop, (∀ tz, oS p e below s₁ (mkF m 0 #[rv a0, iv (own_n pp), .val (.long y), .second] []) tz → P tz) ∧ ∀ tz, P tz → Steps p.tables e below (s₁.setTop (entryFrame m #[(.ref a0), (.int (own_n pp)), (.long y)] 4)) tz := ⟨_, fun _ kz => kz, fun tz kz => castTop (by first | (simp [entryFrame, mkF, argsToLocals, Value.category]; done) | rfl) kz⟩
 obtain ⟨Dg, hDg⟩ : ∃ Dg, Dg = own_dg y.toInt.natAbs := ⟨_, rfl⟩
 have hrg := rng64 y
 have hD19 : Dg ≤ 19 := by rw [hDg]; exact (own_dglt (by decide)).mpr (by omega)
 have hpD : 1 ≤ Dg := by rw [hDg]; exact own_dgpos _
 have S1 : ∀ tz, oS p e below s₁ (mkF m 9 #[rv a0, iv (own_n pp), .val (.long y), .second] [(.int (XT.cmpL y (0 : Int64)))]) tz → P0 tz := fun tz kz => in0 tz (by
  refine XS.iloadN X0.here hx rfl (Y 0 rfl) rfl ?_
  refine XS.ifYes X0.here hx rfl (pc0 := 1) (pc' := 6) rfl (Y 1 rfl) rfl (XT.i0_ge_t (own_nge (by omega))) (by decide) (by decide) ?_
  refine XT.lloadN X0.here hx rfl (Y 2 rfl) rfl ?_
  refine XT.lconstV X0.here hx rfl (0 : Int64) (Y 3 rfl) (by decide) ?_
  refine XT.lcmp X0.here hx rfl (Y 4 rfl) rfl ?_
  exact kz)
 by_cases hc9_2 : y < (0 : Int64)
 ·have hz : y.toInt < 0 := own_gtTL (k := y.toInt) (z := 0) hc9_2 rfl rfl
  have hsz : own_sz y.toInt = Dg + 1 := by unfold own_sz; rw [if_pos hz, hDg]
  have hq45 : g pp = 45 := by have q := hq 0 (by omega); rw [Nat.add_zero] at q; rw [q]; unfold own_num; rw [if_pos ⟨hz, rfl⟩]
  obtain ⟨_, T3, Lc3, X3, hQ3, st3⟩ := own_virtual (W := 1) (y := mN1) (z := mN1) X0 hx hZ hown (oq hw 228 rfl) (oq hw 77 rfl) (notFace_of_selects (args := #[]) (mvT hZ (oq hw 79 rfl))) (oq hw 79 rfl) (oq hw 78 rfl) (oq hw 80 rfl) (oq hw 1 rfl) (by decide) (rmLen l Z av0 hw [] a0 b0 n g wC h0 n0 Z0 (own_Str.mk hD.E hD.C hD.V hD.A) (by omega) hSC hwC) (by decide) (by decide) hD.E (g := (mkF m 14 #[rv a0, iv (own_n pp), .val (.long y), .second] [(.ref a0), (.int (own_n pp))])) rfl (by rw [hml]; rfl) (argsL := []) (rest := [(.int (own_n pp))]) (lenOf pd__I rfl) rfl (Y 8 rfl) rfl e0 (by decide : 0 + 0 ≤ _) (by decide : 0 + 0 ≤ _)
  obtain ⟨rfl, N3q, hh3⟩ := hQ3
  have N3 := Fr.app N0 N3q
  have e3 : T3.heap = h0 := hh3
  obtain ⟨_, T4, Lc4, X4, hQ4, st4⟩ := own_virtual (W := 0) (y := mN37) (z := mN37) X3 hx hZ hown (oq hw 229 rfl) (oq hw 230 rfl) (notFace_of_selects (args := #[]) (mvT hZ (oq hw 232 rfl))) (oq hw 232 rfl) (oq hw 231 rfl) (oq hw 233 rfl) (oq hw 1 rfl) (by decide) (rmCh l Z av0 hw [] a0 b0 n g pp fm wC h0 n0 Z0 (own_Str.mk hD.E hD.C hD.V hD.A) ⟨by omega, by omega⟩ hfm hFm hSC hwC) (by decide) (by decide) hD.E (g := (mkF m 22 #[rv a0, iv (own_n pp), .val (.long y), .second] [(.int (own_n pp)), (.ref a0)])) rfl (by rw [hml]; rfl) (argsL := [(.int (own_n pp))]) (rest := []) (lenOf pd__I_C rfl) rfl (Y 12 rfl) rfl e3 (by decide : 0 + 0 ≤ _) (by decide : 0 + 0 ≤ _)
  obtain ⟨rfl, N4q, hh4⟩ := hQ4
  have N4 := Fr.app N3 N4q
  have e4 : T4.heap = h0 := hh4
  obtain ⟨_, T5, Lc5, X5, hQ5, st5⟩ := own_callS (W := 0) (y := mN41) X4 hx hZ hown (oq hw 256 rfl) (oq hw 257 rfl) (oq hw 223 rfl) (oq hw 258 rfl) (by decide) (rmd l Z av0 hw [] a0 b0 n g (pp + 1) (y.toInt.natAbs / 10 ^ 18 % 10) y (1000000000000000000 : Int64) fm wC h0 n0 Z0 hD ⟨by omega, by omega⟩ (by decide) (own_Dpre (j := 18) (P0 := (pp + 1)) (pp := pp) (ng := 1) (Dg := Dg) (by decide) hDg (by omega) hsz (by omega) hbd.1 hq) hfm hFm hSC hwC) (by decide) (by decide) (g := (mkF m 42 #[rv a0, iv ((own_n (pp + 1))), .val (.long y), .second] [(.long 1000000000000000000), (.long y), (.int (own_n (pp + 1))), (.ref a0)])) rfl (by rw [hml]; rfl) (argsL := [(.ref a0), (.int (own_n (pp + 1))), (.long y), (.long 1000000000000000000)]) (rest := []) (lenOf pd__Ljava_lang_String_IJJ_I rfl) rfl (Y 23 rfl) rfl e4 (by decide : 0 + 0 ≤ _) (by decide : 0 + 0 ≤ _)
  obtain ⟨rfl, N5q, hh5⟩ := hQ5
  have N5 := Fr.app N4 N5q
  have e5 : T5.heap = h0 := hh5
  obtain ⟨_, T6, Lc6, X6, hQ6, st6⟩ := own_callS (W := 0) (y := mN41) X5 hx hZ hown (oq hw 256 rfl) (oq hw 257 rfl) (oq hw 223 rfl) (oq hw 258 rfl) (by decide) (rmd l Z av0 hw [] a0 b0 n g ((pp + 1) + (Dg - 18)) (y.toInt.natAbs / 10 ^ 17 % 10) y (100000000000000000 : Int64) fm wC h0 n0 Z0 hD ⟨by omega, by omega⟩ (by decide) (own_Dpre (j := 17) (P0 := (pp + 1)) (pp := pp) (ng := 1) (Dg := Dg) (by decide) hDg (by omega) hsz (by omega) hbd.1 hq) hfm hFm hSC hwC) (by decide) (by decide) (g := (mkF m 52 #[rv a0, iv ((own_n ((pp + 1) + (Dg - 18)))), .val (.long y), .second] [(.long 100000000000000000), (.long y), (.int (own_n ((pp + 1) + (Dg - 18)))), (.ref a0)])) rfl (by rw [hml]; rfl) (argsL := [(.ref a0), (.int (own_n ((pp + 1) + (Dg - 18)))), (.long y), (.long 100000000000000000)]) (rest := []) (lenOf pd__Ljava_lang_String_IJJ_I rfl) rfl (Y 29 rfl) rfl e5 (by decide : 0 + 0 ≤ _) (by decide : 0 + 0 ≤ _)
  obtain ⟨rfl, N6q, hh6⟩ := hQ6
  have N6 := Fr.app N5 N6q
  have e6 : T6.heap = h0 := hh6
  obtain ⟨_, T7, Lc7, X7, hQ7, st7⟩ := own_callS (W := 0) (y := mN41) X6 hx hZ hown (oq hw 256 rfl) (oq hw 257 rfl) (oq hw 223 rfl) (oq hw 258 rfl) (by decide) (rmd l Z av0 hw [] a0 b0 n g ((pp + 1) + (Dg - 17)) (y.toInt.natAbs / 10 ^ 16 % 10) y (10000000000000000 : Int64) fm wC h0 n0 Z0 hD ⟨by omega, by omega⟩ (by decide) (own_Dpre (j := 16) (P0 := (pp + 1)) (pp := pp) (ng := 1) (Dg := Dg) (by decide) hDg (by omega) hsz (by omega) hbd.1 hq) hfm hFm hSC hwC) (by decide) (by decide) (g := (mkF m 62 #[rv a0, iv ((own_n ((pp + 1) + (Dg - 17)))), .val (.long y), .second] [(.long 10000000000000000), (.long y), (.int (own_n ((pp + 1) + (Dg - 17)))), (.ref a0)])) rfl (by rw [hml]; rfl) (argsL := [(.ref a0), (.int (own_n ((pp + 1) + (Dg - 17)))), (.long y), (.long 10000000000000000)]) (rest := []) (lenOf pd__Ljava_lang_String_IJJ_I rfl) rfl (Y 35 rfl) rfl e6 (by decide : 0 + 0 ≤ _) (by decide : 0 + 0 ≤ _)
  obtain ⟨rfl, N7q, hh7⟩ := hQ7
  have N7 := Fr.app N6 N7q
  have e7 : T7.heap = h0 := hh7
  obtain ⟨_, T8, Lc8, X8, hQ8, st8⟩ := own_callS (W := 0) (y := mN41) X7 hx hZ hown (oq hw 256 rfl) (oq hw 257 rfl) (oq hw 223 rfl) (oq hw 258 rfl) (by decide) (rmd l Z av0 hw [] a0 b0 n g ((pp + 1) + (Dg - 16)) (y.toInt.natAbs / 10 ^ 15 % 10) y (1000000000000000 : Int64) fm wC h0 n0 Z0 hD ⟨by omega, by omega⟩ (by decide) (own_Dpre (j := 15) (P0 := (pp + 1)) (pp := pp) (ng := 1) (Dg := Dg) (by decide) hDg (by omega) hsz (by omega) hbd.1 hq) hfm hFm hSC hwC) (by decide) (by decide) (g := (mkF m 72 #[rv a0, iv ((own_n ((pp + 1) + (Dg - 16)))), .val (.long y), .second] [(.long 1000000000000000), (.long y), (.int (own_n ((pp + 1) + (Dg - 16)))), (.ref a0)])) rfl (by rw [hml]; rfl) (argsL := [(.ref a0), (.int (own_n ((pp + 1) + (Dg - 16)))), (.long y), (.long 1000000000000000)]) (rest := []) (lenOf pd__Ljava_lang_String_IJJ_I rfl) rfl (Y 41 rfl) rfl e7 (by decide : 0 + 0 ≤ _) (by decide : 0 + 0 ≤ _)
  obtain ⟨rfl, N8q, hh8⟩ := hQ8
  have N8 := Fr.app N7 N8q
  have e8 : T8.heap = h0 := hh8
  obtain ⟨_, T9, Lc9, X9, hQ9, st9⟩ := own_callS (W := 0) (y := mN41) X8 hx hZ hown (oq hw 256 rfl) (oq hw 257 rfl) (oq hw 223 rfl) (oq hw 258 rfl) (by decide) (rmd l Z av0 hw [] a0 b0 n g ((pp + 1) + (Dg - 15)) (y.toInt.natAbs / 10 ^ 14 % 10) y (100000000000000 : Int64) fm wC h0 n0 Z0 hD ⟨by omega, by omega⟩ (by decide) (own_Dpre (j := 14) (P0 := (pp + 1)) (pp := pp) (ng := 1) (Dg := Dg) (by decide) hDg (by omega) hsz (by omega) hbd.1 hq) hfm hFm hSC hwC) (by decide) (by decide) (g := (mkF m 82 #[rv a0, iv ((own_n ((pp + 1) + (Dg - 15)))), .val (.long y), .second] [(.long 100000000000000), (.long y), (.int (own_n ((pp + 1) + (Dg - 15)))), (.ref a0)])) rfl (by rw [hml]; rfl) (argsL := [(.ref a0), (.int (own_n ((pp + 1) + (Dg - 15)))), (.long y), (.long 100000000000000)]) (rest := []) (lenOf pd__Ljava_lang_String_IJJ_I rfl) rfl (Y 47 rfl) rfl e8 (by decide : 0 + 0 ≤ _) (by decide : 0 + 0 ≤ _)
  obtain ⟨rfl, N9q, hh9⟩ := hQ9
  have N9 := Fr.app N8 N9q
  have e9 : T9.heap = h0 := hh9
  obtain ⟨_, T10, Lc10, X10, hQ10, st10⟩ := own_callS (W := 0) (y := mN41) X9 hx hZ hown (oq hw 256 rfl) (oq hw 257 rfl) (oq hw 223 rfl) (oq hw 258 rfl) (by decide) (rmd l Z av0 hw [] a0 b0 n g ((pp + 1) + (Dg - 14)) (y.toInt.natAbs / 10 ^ 13 % 10) y (10000000000000 : Int64) fm wC h0 n0 Z0 hD ⟨by omega, by omega⟩ (by decide) (own_Dpre (j := 13) (P0 := (pp + 1)) (pp := pp) (ng := 1) (Dg := Dg) (by decide) hDg (by omega) hsz (by omega) hbd.1 hq) hfm hFm hSC hwC) (by decide) (by decide) (g := (mkF m 92 #[rv a0, iv ((own_n ((pp + 1) + (Dg - 14)))), .val (.long y), .second] [(.long 10000000000000), (.long y), (.int (own_n ((pp + 1) + (Dg - 14)))), (.ref a0)])) rfl (by rw [hml]; rfl) (argsL := [(.ref a0), (.int (own_n ((pp + 1) + (Dg - 14)))), (.long y), (.long 10000000000000)]) (rest := []) (lenOf pd__Ljava_lang_String_IJJ_I rfl) rfl (Y 53 rfl) rfl e9 (by decide : 0 + 0 ≤ _) (by decide : 0 + 0 ≤ _)
  obtain ⟨rfl, N10q, hh10⟩ := hQ10
  have N10 := Fr.app N9 N10q
  have e10 : T10.heap = h0 := hh10
  obtain ⟨_, T11, Lc11, X11, hQ11, st11⟩ := own_callS (W := 0) (y := mN41) X10 hx hZ hown (oq hw 256 rfl) (oq hw 257 rfl) (oq hw 223 rfl) (oq hw 258 rfl) (by decide) (rmd l Z av0 hw [] a0 b0 n g ((pp + 1) + (Dg - 13)) (y.toInt.natAbs / 10 ^ 12 % 10) y (1000000000000 : Int64) fm wC h0 n0 Z0 hD ⟨by omega, by omega⟩ (by decide) (own_Dpre (j := 12) (P0 := (pp + 1)) (pp := pp) (ng := 1) (Dg := Dg) (by decide) hDg (by omega) hsz (by omega) hbd.1 hq) hfm hFm hSC hwC) (by decide) (by decide) (g := (mkF m 102 #[rv a0, iv ((own_n ((pp + 1) + (Dg - 13)))), .val (.long y), .second] [(.long 1000000000000), (.long y), (.int (own_n ((pp + 1) + (Dg - 13)))), (.ref a0)])) rfl (by rw [hml]; rfl) (argsL := [(.ref a0), (.int (own_n ((pp + 1) + (Dg - 13)))), (.long y), (.long 1000000000000)]) (rest := []) (lenOf pd__Ljava_lang_String_IJJ_I rfl) rfl (Y 59 rfl) rfl e10 (by decide : 0 + 0 ≤ _) (by decide : 0 + 0 ≤ _)
  obtain ⟨rfl, N11q, hh11⟩ := hQ11
  have N11 := Fr.app N10 N11q
  have e11 : T11.heap = h0 := hh11
  obtain ⟨_, T12, Lc12, X12, hQ12, st12⟩ := own_callS (W := 0) (y := mN41) X11 hx hZ hown (oq hw 256 rfl) (oq hw 257 rfl) (oq hw 223 rfl) (oq hw 258 rfl) (by decide) (rmd l Z av0 hw [] a0 b0 n g ((pp + 1) + (Dg - 12)) (y.toInt.natAbs / 10 ^ 11 % 10) y (100000000000 : Int64) fm wC h0 n0 Z0 hD ⟨by omega, by omega⟩ (by decide) (own_Dpre (j := 11) (P0 := (pp + 1)) (pp := pp) (ng := 1) (Dg := Dg) (by decide) hDg (by omega) hsz (by omega) hbd.1 hq) hfm hFm hSC hwC) (by decide) (by decide) (g := (mkF m 112 #[rv a0, iv ((own_n ((pp + 1) + (Dg - 12)))), .val (.long y), .second] [(.long 100000000000), (.long y), (.int (own_n ((pp + 1) + (Dg - 12)))), (.ref a0)])) rfl (by rw [hml]; rfl) (argsL := [(.ref a0), (.int (own_n ((pp + 1) + (Dg - 12)))), (.long y), (.long 100000000000)]) (rest := []) (lenOf pd__Ljava_lang_String_IJJ_I rfl) rfl (Y 65 rfl) rfl e11 (by decide : 0 + 0 ≤ _) (by decide : 0 + 0 ≤ _)
  obtain ⟨rfl, N12q, hh12⟩ := hQ12
  have N12 := Fr.app N11 N12q
  have e12 : T12.heap = h0 := hh12
  obtain ⟨_, T13, Lc13, X13, hQ13, st13⟩ := own_callS (W := 0) (y := mN41) X12 hx hZ hown (oq hw 256 rfl) (oq hw 257 rfl) (oq hw 223 rfl) (oq hw 258 rfl) (by decide) (rmd l Z av0 hw [] a0 b0 n g ((pp + 1) + (Dg - 11)) (y.toInt.natAbs / 10 ^ 10 % 10) y (10000000000 : Int64) fm wC h0 n0 Z0 hD ⟨by omega, by omega⟩ (by decide) (own_Dpre (j := 10) (P0 := (pp + 1)) (pp := pp) (ng := 1) (Dg := Dg) (by decide) hDg (by omega) hsz (by omega) hbd.1 hq) hfm hFm hSC hwC) (by decide) (by decide) (g := (mkF m 122 #[rv a0, iv ((own_n ((pp + 1) + (Dg - 11)))), .val (.long y), .second] [(.long 10000000000), (.long y), (.int (own_n ((pp + 1) + (Dg - 11)))), (.ref a0)])) rfl (by rw [hml]; rfl) (argsL := [(.ref a0), (.int (own_n ((pp + 1) + (Dg - 11)))), (.long y), (.long 10000000000)]) (rest := []) (lenOf pd__Ljava_lang_String_IJJ_I rfl) rfl (Y 71 rfl) rfl e12 (by decide : 0 + 0 ≤ _) (by decide : 0 + 0 ≤ _)
  obtain ⟨rfl, N13q, hh13⟩ := hQ13
  have N13 := Fr.app N12 N13q
  have e13 : T13.heap = h0 := hh13
  obtain ⟨_, T14, Lc14, X14, hQ14, st14⟩ := own_callS (W := 0) (y := mN41) X13 hx hZ hown (oq hw 256 rfl) (oq hw 257 rfl) (oq hw 223 rfl) (oq hw 258 rfl) (by decide) (rmd l Z av0 hw [] a0 b0 n g ((pp + 1) + (Dg - 10)) (y.toInt.natAbs / 10 ^ 9 % 10) y (1000000000 : Int64) fm wC h0 n0 Z0 hD ⟨by omega, by omega⟩ (by decide) (own_Dpre (j := 9) (P0 := (pp + 1)) (pp := pp) (ng := 1) (Dg := Dg) (by decide) hDg (by omega) hsz (by omega) hbd.1 hq) hfm hFm hSC hwC) (by decide) (by decide) (g := (mkF m 132 #[rv a0, iv ((own_n ((pp + 1) + (Dg - 10)))), .val (.long y), .second] [(.long 1000000000), (.long y), (.int (own_n ((pp + 1) + (Dg - 10)))), (.ref a0)])) rfl (by rw [hml]; rfl) (argsL := [(.ref a0), (.int (own_n ((pp + 1) + (Dg - 10)))), (.long y), (.long 1000000000)]) (rest := []) (lenOf pd__Ljava_lang_String_IJJ_I rfl) rfl (Y 77 rfl) rfl e13 (by decide : 0 + 0 ≤ _) (by decide : 0 + 0 ≤ _)
  obtain ⟨rfl, N14q, hh14⟩ := hQ14
  have N14 := Fr.app N13 N14q
  have e14 : T14.heap = h0 := hh14
  obtain ⟨_, T15, Lc15, X15, hQ15, st15⟩ := own_callS (W := 0) (y := mN41) X14 hx hZ hown (oq hw 256 rfl) (oq hw 257 rfl) (oq hw 223 rfl) (oq hw 258 rfl) (by decide) (rmd l Z av0 hw [] a0 b0 n g ((pp + 1) + (Dg - 9)) (y.toInt.natAbs / 10 ^ 8 % 10) y (100000000 : Int64) fm wC h0 n0 Z0 hD ⟨by omega, by omega⟩ (by decide) (own_Dpre (j := 8) (P0 := (pp + 1)) (pp := pp) (ng := 1) (Dg := Dg) (by decide) hDg (by omega) hsz (by omega) hbd.1 hq) hfm hFm hSC hwC) (by decide) (by decide) (g := (mkF m 142 #[rv a0, iv ((own_n ((pp + 1) + (Dg - 9)))), .val (.long y), .second] [(.long 100000000), (.long y), (.int (own_n ((pp + 1) + (Dg - 9)))), (.ref a0)])) rfl (by rw [hml]; rfl) (argsL := [(.ref a0), (.int (own_n ((pp + 1) + (Dg - 9)))), (.long y), (.long 100000000)]) (rest := []) (lenOf pd__Ljava_lang_String_IJJ_I rfl) rfl (Y 83 rfl) rfl e14 (by decide : 0 + 0 ≤ _) (by decide : 0 + 0 ≤ _)
  obtain ⟨rfl, N15q, hh15⟩ := hQ15
  have N15 := Fr.app N14 N15q
  have e15 : T15.heap = h0 := hh15
  obtain ⟨_, T16, Lc16, X16, hQ16, st16⟩ := own_callS (W := 0) (y := mN41) X15 hx hZ hown (oq hw 256 rfl) (oq hw 257 rfl) (oq hw 223 rfl) (oq hw 258 rfl) (by decide) (rmd l Z av0 hw [] a0 b0 n g ((pp + 1) + (Dg - 8)) (y.toInt.natAbs / 10 ^ 7 % 10) y (10000000 : Int64) fm wC h0 n0 Z0 hD ⟨by omega, by omega⟩ (by decide) (own_Dpre (j := 7) (P0 := (pp + 1)) (pp := pp) (ng := 1) (Dg := Dg) (by decide) hDg (by omega) hsz (by omega) hbd.1 hq) hfm hFm hSC hwC) (by decide) (by decide) (g := (mkF m 152 #[rv a0, iv ((own_n ((pp + 1) + (Dg - 8)))), .val (.long y), .second] [(.long 10000000), (.long y), (.int (own_n ((pp + 1) + (Dg - 8)))), (.ref a0)])) rfl (by rw [hml]; rfl) (argsL := [(.ref a0), (.int (own_n ((pp + 1) + (Dg - 8)))), (.long y), (.long 10000000)]) (rest := []) (lenOf pd__Ljava_lang_String_IJJ_I rfl) rfl (Y 89 rfl) rfl e15 (by decide : 0 + 0 ≤ _) (by decide : 0 + 0 ≤ _)
  obtain ⟨rfl, N16q, hh16⟩ := hQ16
  have N16 := Fr.app N15 N16q
  have e16 : T16.heap = h0 := hh16
  obtain ⟨_, T17, Lc17, X17, hQ17, st17⟩ := own_callS (W := 0) (y := mN41) X16 hx hZ hown (oq hw 256 rfl) (oq hw 257 rfl) (oq hw 223 rfl) (oq hw 258 rfl) (by decide) (rmd l Z av0 hw [] a0 b0 n g ((pp + 1) + (Dg - 7)) (y.toInt.natAbs / 10 ^ 6 % 10) y (1000000 : Int64) fm wC h0 n0 Z0 hD ⟨by omega, by omega⟩ (by decide) (own_Dpre (j := 6) (P0 := (pp + 1)) (pp := pp) (ng := 1) (Dg := Dg) (by decide) hDg (by omega) hsz (by omega) hbd.1 hq) hfm hFm hSC hwC) (by decide) (by decide) (g := (mkF m 162 #[rv a0, iv ((own_n ((pp + 1) + (Dg - 7)))), .val (.long y), .second] [(.long 1000000), (.long y), (.int (own_n ((pp + 1) + (Dg - 7)))), (.ref a0)])) rfl (by rw [hml]; rfl) (argsL := [(.ref a0), (.int (own_n ((pp + 1) + (Dg - 7)))), (.long y), (.long 1000000)]) (rest := []) (lenOf pd__Ljava_lang_String_IJJ_I rfl) rfl (Y 95 rfl) rfl e16 (by decide : 0 + 0 ≤ _) (by decide : 0 + 0 ≤ _)
  obtain ⟨rfl, N17q, hh17⟩ := hQ17
  have N17 := Fr.app N16 N17q
  have e17 : T17.heap = h0 := hh17
  obtain ⟨_, T18, Lc18, X18, hQ18, st18⟩ := own_callS (W := 0) (y := mN41) X17 hx hZ hown (oq hw 256 rfl) (oq hw 257 rfl) (oq hw 223 rfl) (oq hw 258 rfl) (by decide) (rmd l Z av0 hw [] a0 b0 n g ((pp + 1) + (Dg - 6)) (y.toInt.natAbs / 10 ^ 5 % 10) y (100000 : Int64) fm wC h0 n0 Z0 hD ⟨by omega, by omega⟩ (by decide) (own_Dpre (j := 5) (P0 := (pp + 1)) (pp := pp) (ng := 1) (Dg := Dg) (by decide) hDg (by omega) hsz (by omega) hbd.1 hq) hfm hFm hSC hwC) (by decide) (by decide) (g := (mkF m 172 #[rv a0, iv ((own_n ((pp + 1) + (Dg - 6)))), .val (.long y), .second] [(.long 100000), (.long y), (.int (own_n ((pp + 1) + (Dg - 6)))), (.ref a0)])) rfl (by rw [hml]; rfl) (argsL := [(.ref a0), (.int (own_n ((pp + 1) + (Dg - 6)))), (.long y), (.long 100000)]) (rest := []) (lenOf pd__Ljava_lang_String_IJJ_I rfl) rfl (Y 101 rfl) rfl e17 (by decide : 0 + 0 ≤ _) (by decide : 0 + 0 ≤ _)
  obtain ⟨rfl, N18q, hh18⟩ := hQ18
  have N18 := Fr.app N17 N18q
  have e18 : T18.heap = h0 := hh18
  obtain ⟨_, T19, Lc19, X19, hQ19, st19⟩ := own_callS (W := 0) (y := mN41) X18 hx hZ hown (oq hw 256 rfl) (oq hw 257 rfl) (oq hw 223 rfl) (oq hw 258 rfl) (by decide) (rmd l Z av0 hw [] a0 b0 n g ((pp + 1) + (Dg - 5)) (y.toInt.natAbs / 10 ^ 4 % 10) y (10000 : Int64) fm wC h0 n0 Z0 hD ⟨by omega, by omega⟩ (by decide) (own_Dpre (j := 4) (P0 := (pp + 1)) (pp := pp) (ng := 1) (Dg := Dg) (by decide) hDg (by omega) hsz (by omega) hbd.1 hq) hfm hFm hSC hwC) (by decide) (by decide) (g := (mkF m 182 #[rv a0, iv ((own_n ((pp + 1) + (Dg - 5)))), .val (.long y), .second] [(.long 10000), (.long y), (.int (own_n ((pp + 1) + (Dg - 5)))), (.ref a0)])) rfl (by rw [hml]; rfl) (argsL := [(.ref a0), (.int (own_n ((pp + 1) + (Dg - 5)))), (.long y), (.long 10000)]) (rest := []) (lenOf pd__Ljava_lang_String_IJJ_I rfl) rfl (Y 107 rfl) rfl e18 (by decide : 0 + 0 ≤ _) (by decide : 0 + 0 ≤ _)
  obtain ⟨rfl, N19q, hh19⟩ := hQ19
  have N19 := Fr.app N18 N19q
  have e19 : T19.heap = h0 := hh19
  obtain ⟨_, T20, Lc20, X20, hQ20, st20⟩ := own_callS (W := 0) (y := mN41) X19 hx hZ hown (oq hw 256 rfl) (oq hw 257 rfl) (oq hw 223 rfl) (oq hw 258 rfl) (by decide) (rmd l Z av0 hw [] a0 b0 n g ((pp + 1) + (Dg - 4)) (y.toInt.natAbs / 10 ^ 3 % 10) y (1000 : Int64) fm wC h0 n0 Z0 hD ⟨by omega, by omega⟩ (by decide) (own_Dpre (j := 3) (P0 := (pp + 1)) (pp := pp) (ng := 1) (Dg := Dg) (by decide) hDg (by omega) hsz (by omega) hbd.1 hq) hfm hFm hSC hwC) (by decide) (by decide) (g := (mkF m 192 #[rv a0, iv ((own_n ((pp + 1) + (Dg - 4)))), .val (.long y), .second] [(.long 1000), (.long y), (.int (own_n ((pp + 1) + (Dg - 4)))), (.ref a0)])) rfl (by rw [hml]; rfl) (argsL := [(.ref a0), (.int (own_n ((pp + 1) + (Dg - 4)))), (.long y), (.long 1000)]) (rest := []) (lenOf pd__Ljava_lang_String_IJJ_I rfl) rfl (Y 113 rfl) rfl e19 (by decide : 0 + 0 ≤ _) (by decide : 0 + 0 ≤ _)
  obtain ⟨rfl, N20q, hh20⟩ := hQ20
  have N20 := Fr.app N19 N20q
  have e20 : T20.heap = h0 := hh20
  obtain ⟨_, T21, Lc21, X21, hQ21, st21⟩ := own_callS (W := 0) (y := mN41) X20 hx hZ hown (oq hw 256 rfl) (oq hw 257 rfl) (oq hw 223 rfl) (oq hw 258 rfl) (by decide) (rmd l Z av0 hw [] a0 b0 n g ((pp + 1) + (Dg - 3)) (y.toInt.natAbs / 10 ^ 2 % 10) y (100 : Int64) fm wC h0 n0 Z0 hD ⟨by omega, by omega⟩ (by decide) (own_Dpre (j := 2) (P0 := (pp + 1)) (pp := pp) (ng := 1) (Dg := Dg) (by decide) hDg (by omega) hsz (by omega) hbd.1 hq) hfm hFm hSC hwC) (by decide) (by decide) (g := (mkF m 202 #[rv a0, iv ((own_n ((pp + 1) + (Dg - 3)))), .val (.long y), .second] [(.long 100), (.long y), (.int (own_n ((pp + 1) + (Dg - 3)))), (.ref a0)])) rfl (by rw [hml]; rfl) (argsL := [(.ref a0), (.int (own_n ((pp + 1) + (Dg - 3)))), (.long y), (.long 100)]) (rest := []) (lenOf pd__Ljava_lang_String_IJJ_I rfl) rfl (Y 119 rfl) rfl e20 (by decide : 0 + 0 ≤ _) (by decide : 0 + 0 ≤ _)
  obtain ⟨rfl, N21q, hh21⟩ := hQ21
  have N21 := Fr.app N20 N21q
  have e21 : T21.heap = h0 := hh21
  obtain ⟨_, T22, Lc22, X22, hQ22, st22⟩ := own_callS (W := 0) (y := mN41) X21 hx hZ hown (oq hw 256 rfl) (oq hw 257 rfl) (oq hw 223 rfl) (oq hw 258 rfl) (by decide) (rmd l Z av0 hw [] a0 b0 n g ((pp + 1) + (Dg - 2)) (y.toInt.natAbs / 10 ^ 1 % 10) y (10 : Int64) fm wC h0 n0 Z0 hD ⟨by omega, by omega⟩ (by decide) (own_Dpre (j := 1) (P0 := (pp + 1)) (pp := pp) (ng := 1) (Dg := Dg) (by decide) hDg (by omega) hsz (by omega) hbd.1 hq) hfm hFm hSC hwC) (by decide) (by decide) (g := (mkF m 212 #[rv a0, iv ((own_n ((pp + 1) + (Dg - 2)))), .val (.long y), .second] [(.long 10), (.long y), (.int (own_n ((pp + 1) + (Dg - 2)))), (.ref a0)])) rfl (by rw [hml]; rfl) (argsL := [(.ref a0), (.int (own_n ((pp + 1) + (Dg - 2)))), (.long y), (.long 10)]) (rest := []) (lenOf pd__Ljava_lang_String_IJJ_I rfl) rfl (Y 125 rfl) rfl e21 (by decide : 0 + 0 ≤ _) (by decide : 0 + 0 ≤ _)
  obtain ⟨rfl, N22q, hh22⟩ := hQ22
  have N22 := Fr.app N21 N22q
  have e22 : T22.heap = h0 := hh22
  obtain ⟨_, T23, Lc23, X23, hQ23, st23⟩ := own_callS (W := 0) (y := mN41) X22 hx hZ hown (oq hw 256 rfl) (oq hw 257 rfl) (oq hw 223 rfl) (oq hw 258 rfl) (by decide) (rmd l Z av0 hw [] a0 b0 n g ((pp + 1) + (Dg - 1)) (y.toInt.natAbs / 10 ^ 0 % 10) y (1 : Int64) fm wC h0 n0 Z0 hD ⟨by omega, by omega⟩ (by decide) (own_Dpre (j := 0) (P0 := (pp + 1)) (pp := pp) (ng := 1) (Dg := Dg) (by decide) hDg (by omega) hsz (by omega) hbd.1 hq) hfm hFm hSC hwC) (by decide) (by decide) (g := (mkF m 220 #[rv a0, iv ((own_n ((pp + 1) + (Dg - 1)))), .val (.long y), .second] [(.long 1), (.long y), (.int (own_n ((pp + 1) + (Dg - 1)))), (.ref a0)])) rfl (by rw [hml]; rfl) (argsL := [(.ref a0), (.int (own_n ((pp + 1) + (Dg - 1)))), (.long y), (.long 1)]) (rest := []) (lenOf pd__Ljava_lang_String_IJJ_I rfl) rfl (Y 131 rfl) rfl e22 (by decide : 0 + 0 ≤ _) (by decide : 0 + 0 ≤ _)
  obtain ⟨rfl, N23q, hh23⟩ := hQ23
  have N23 := Fr.app N22 N23q
  have e23 : T23.heap = h0 := hh23
  have S24 : ∀ tz, oS p e below T23 (mkF m 225 #[rv a0, iv ((own_n ((pp + 1) + (Dg - 0)))), .val (.long y), .second] [(.int (own_n ((pp + 1) + (Dg - 0))))]) tz → P0 tz := fun tz kz => S1 tz (by
   refine XS.ifNo X0.here hx rfl (Y 5 rfl) rfl (XT.ll_ge_f hc9_2) ?_
   refine XS.iloadN X0.here hx rfl (Y 6 rfl) rfl ?_
   refine XS.aloadN X0.here hx rfl (Y 7 rfl) rfl rfl ?_
   refine st3 _ ?_
   refine XS.icmpNo X3.here hx rfl (Y 9 rfl) rfl (XT.ii_ge_f (own_nlt (by omega) (by omega)).2) ?_
   show oS p e below T3 (mkF m 20 #[rv a0, iv (own_n pp), .val (.long y), .second] []) _
   refine XS.aloadN X3.here hx rfl (Y 10 rfl) rfl rfl ?_
   refine XS.iloadN X3.here hx rfl (Y 11 rfl) rfl ?_
   refine st4 _ ?_
   refine XT.bipushV X4.here hx rfl (45 : Int32) (Y 13 rfl) (by decide) ?_
   refine XS.icmpYes X4.here hx rfl (pc0 := 27) (pc' := 32) rfl (Y 14 rfl) rfl (XT.ii_eq_t (by rw [hq45]; rfl)) (by decide) (by decide) ?_
   refine XS.iloadN X4.here hx rfl (Y 15 rfl) rfl ?_
   refine XT.iconstV X4.here hx rfl (1 : Int32) (Y 16 rfl) (by decide) ?_
   refine XS.iadd X4.here hx rfl (Y 17 rfl) rfl ?_
   show oS p e below T4 (mkF m 35 #[rv a0, iv (own_n pp), .val (.long y), .second] [(.int ((own_n pp) + (1 : Int32)))]) _
   rw [own_nadd (by omega)]
   show oS p e below T4 (mkF m 35 #[rv a0, iv (own_n pp), .val (.long y), .second] [(.int (own_n (pp + 1)))]) _
   refine XS.istoreN X4.here hx rfl (Y 18 rfl) rfl (l' := #[rv a0, iv ((own_n (pp + 1))), .val (.long y), .second]) rfl ?_
   show oS p e below T4 (mkF m 36 #[rv a0, iv ((own_n (pp + 1))), .val (.long y), .second] []) _
   refine XS.aloadN X4.here hx rfl (Y 19 rfl) rfl rfl ?_
   refine XS.iloadN X4.here hx rfl (Y 20 rfl) rfl ?_
   refine XT.lloadN X4.here hx rfl (Y 21 rfl) rfl ?_
   refine X4.ldc2J hx hown (mvT hZ (oq hw 255 rfl)) rfl (Y 22 rfl) ?_
   refine st5 _ ?_
   show oS p e below T5 (mkF m 45 #[rv a0, iv ((own_n (pp + 1))), .val (.long y), .second] [(.int (own_n ((pp + 1) + if y / (1000000000000000000 : Int64) = 0 ∧ ¬ (1000000000000000000 : Int64) = 1 then 0 else 1)))]) _
   rw [own_Dres (j := 18) (P0 := (pp + 1)) (P := (pp + 1)) (Dg := Dg) (by decide) hDg (by omega)]
   show oS p e below T5 (mkF m 45 #[rv a0, iv ((own_n (pp + 1))), .val (.long y), .second] [(.int (own_n ((pp + 1) + (Dg - 18))))]) _
   refine XS.istoreN X5.here hx rfl (Y 24 rfl) rfl (l' := #[rv a0, iv ((own_n ((pp + 1) + (Dg - 18)))), .val (.long y), .second]) rfl ?_
   refine XS.aloadN X5.here hx rfl (Y 25 rfl) rfl rfl ?_
   refine XS.iloadN X5.here hx rfl (Y 26 rfl) rfl ?_
   refine XT.lloadN X5.here hx rfl (Y 27 rfl) rfl ?_
   show oS p e below T5 (mkF m 49 #[rv a0, iv ((own_n ((pp + 1) + (Dg - 18)))), .val (.long y), .second] [(.long y), (.int (own_n ((pp + 1) + (Dg - 18)))), (.ref a0)]) _
   refine X5.ldc2J hx hown (mvT hZ (oq hw 259 rfl)) rfl (Y 28 rfl) ?_
   refine st6 _ ?_
   show oS p e below T6 (mkF m 55 #[rv a0, iv ((own_n ((pp + 1) + (Dg - 18)))), .val (.long y), .second] [(.int (own_n (((pp + 1) + (Dg - 18)) + if y / (100000000000000000 : Int64) = 0 ∧ ¬ (100000000000000000 : Int64) = 1 then 0 else 1)))]) _
   rw [own_Dres (j := 17) (P0 := (pp + 1)) (P := ((pp + 1) + (Dg - 18))) (Dg := Dg) (by decide) hDg (by omega)]
   show oS p e below T6 (mkF m 55 #[rv a0, iv ((own_n ((pp + 1) + (Dg - 18)))), .val (.long y), .second] [(.int (own_n ((pp + 1) + (Dg - 17))))]) _
   refine XS.istoreN X6.here hx rfl (Y 30 rfl) rfl (l' := #[rv a0, iv ((own_n ((pp + 1) + (Dg - 17)))), .val (.long y), .second]) rfl ?_
   refine XS.aloadN X6.here hx rfl (Y 31 rfl) rfl rfl ?_
   refine XS.iloadN X6.here hx rfl (Y 32 rfl) rfl ?_
   refine XT.lloadN X6.here hx rfl (Y 33 rfl) rfl ?_
   refine X6.ldc2J hx hown (mvT hZ (oq hw 260 rfl)) rfl (Y 34 rfl) ?_
   refine st7 _ ?_
   show oS p e below T7 (mkF m 65 #[rv a0, iv ((own_n ((pp + 1) + (Dg - 17)))), .val (.long y), .second] [(.int (own_n (((pp + 1) + (Dg - 17)) + if y / (10000000000000000 : Int64) = 0 ∧ ¬ (10000000000000000 : Int64) = 1 then 0 else 1)))]) _
   rw [own_Dres (j := 16) (P0 := (pp + 1)) (P := ((pp + 1) + (Dg - 17))) (Dg := Dg) (by decide) hDg (by omega)]
   show oS p e below T7 (mkF m 65 #[rv a0, iv ((own_n ((pp + 1) + (Dg - 17)))), .val (.long y), .second] [(.int (own_n ((pp + 1) + (Dg - 16))))]) _
   refine XS.istoreN X7.here hx rfl (Y 36 rfl) rfl (l' := #[rv a0, iv ((own_n ((pp + 1) + (Dg - 16)))), .val (.long y), .second]) rfl ?_
   refine XS.aloadN X7.here hx rfl (Y 37 rfl) rfl rfl ?_
   refine XS.iloadN X7.here hx rfl (Y 38 rfl) rfl ?_
   refine XT.lloadN X7.here hx rfl (Y 39 rfl) rfl ?_
   refine X7.ldc2J hx hown (mvT hZ (oq hw 261 rfl)) rfl (Y 40 rfl) ?_
   refine st8 _ ?_
   show oS p e below T8 (mkF m 75 #[rv a0, iv ((own_n ((pp + 1) + (Dg - 16)))), .val (.long y), .second] [(.int (own_n (((pp + 1) + (Dg - 16)) + if y / (1000000000000000 : Int64) = 0 ∧ ¬ (1000000000000000 : Int64) = 1 then 0 else 1)))]) _
   rw [own_Dres (j := 15) (P0 := (pp + 1)) (P := ((pp + 1) + (Dg - 16))) (Dg := Dg) (by decide) hDg (by omega)]
   show oS p e below T8 (mkF m 75 #[rv a0, iv ((own_n ((pp + 1) + (Dg - 16)))), .val (.long y), .second] [(.int (own_n ((pp + 1) + (Dg - 15))))]) _
   refine XS.istoreN X8.here hx rfl (Y 42 rfl) rfl (l' := #[rv a0, iv ((own_n ((pp + 1) + (Dg - 15)))), .val (.long y), .second]) rfl ?_
   refine XS.aloadN X8.here hx rfl (Y 43 rfl) rfl rfl ?_
   refine XS.iloadN X8.here hx rfl (Y 44 rfl) rfl ?_
   show oS p e below T8 (mkF m 78 #[rv a0, iv ((own_n ((pp + 1) + (Dg - 15)))), .val (.long y), .second] [(.int (own_n ((pp + 1) + (Dg - 15)))), (.ref a0)]) _
   refine XT.lloadN X8.here hx rfl (Y 45 rfl) rfl ?_
   refine X8.ldc2J hx hown (mvT hZ (oq hw 262 rfl)) rfl (Y 46 rfl) ?_
   refine st9 _ ?_
   show oS p e below T9 (mkF m 85 #[rv a0, iv ((own_n ((pp + 1) + (Dg - 15)))), .val (.long y), .second] [(.int (own_n (((pp + 1) + (Dg - 15)) + if y / (100000000000000 : Int64) = 0 ∧ ¬ (100000000000000 : Int64) = 1 then 0 else 1)))]) _
   rw [own_Dres (j := 14) (P0 := (pp + 1)) (P := ((pp + 1) + (Dg - 15))) (Dg := Dg) (by decide) hDg (by omega)]
   show oS p e below T9 (mkF m 85 #[rv a0, iv ((own_n ((pp + 1) + (Dg - 15)))), .val (.long y), .second] [(.int (own_n ((pp + 1) + (Dg - 14))))]) _
   refine XS.istoreN X9.here hx rfl (Y 48 rfl) rfl (l' := #[rv a0, iv ((own_n ((pp + 1) + (Dg - 14)))), .val (.long y), .second]) rfl ?_
   refine XS.aloadN X9.here hx rfl (Y 49 rfl) rfl rfl ?_
   refine XS.iloadN X9.here hx rfl (Y 50 rfl) rfl ?_
   refine XT.lloadN X9.here hx rfl (Y 51 rfl) rfl ?_
   refine X9.ldc2J hx hown (mvT hZ (oq hw 263 rfl)) rfl (Y 52 rfl) ?_
   refine st10 _ ?_
   show oS p e below T10 (mkF m 95 #[rv a0, iv ((own_n ((pp + 1) + (Dg - 14)))), .val (.long y), .second] [(.int (own_n (((pp + 1) + (Dg - 14)) + if y / (10000000000000 : Int64) = 0 ∧ ¬ (10000000000000 : Int64) = 1 then 0 else 1)))]) _
   rw [own_Dres (j := 13) (P0 := (pp + 1)) (P := ((pp + 1) + (Dg - 14))) (Dg := Dg) (by decide) hDg (by omega)]
   show oS p e below T10 (mkF m 95 #[rv a0, iv ((own_n ((pp + 1) + (Dg - 14)))), .val (.long y), .second] [(.int (own_n ((pp + 1) + (Dg - 13))))]) _
   refine XS.istoreN X10.here hx rfl (Y 54 rfl) rfl (l' := #[rv a0, iv ((own_n ((pp + 1) + (Dg - 13)))), .val (.long y), .second]) rfl ?_
   refine XS.aloadN X10.here hx rfl (Y 55 rfl) rfl rfl ?_
   refine XS.iloadN X10.here hx rfl (Y 56 rfl) rfl ?_
   refine XT.lloadN X10.here hx rfl (Y 57 rfl) rfl ?_
   refine X10.ldc2J hx hown (mvT hZ (oq hw 264 rfl)) rfl (Y 58 rfl) ?_
   refine st11 _ ?_
   show oS p e below T11 (mkF m 105 #[rv a0, iv ((own_n ((pp + 1) + (Dg - 13)))), .val (.long y), .second] [(.int (own_n (((pp + 1) + (Dg - 13)) + if y / (1000000000000 : Int64) = 0 ∧ ¬ (1000000000000 : Int64) = 1 then 0 else 1)))]) _
   rw [own_Dres (j := 12) (P0 := (pp + 1)) (P := ((pp + 1) + (Dg - 13))) (Dg := Dg) (by decide) hDg (by omega)]
   show oS p e below T11 (mkF m 105 #[rv a0, iv ((own_n ((pp + 1) + (Dg - 13)))), .val (.long y), .second] [(.int (own_n ((pp + 1) + (Dg - 12))))]) _
   refine XS.istoreN X11.here hx rfl (Y 60 rfl) rfl (l' := #[rv a0, iv ((own_n ((pp + 1) + (Dg - 12)))), .val (.long y), .second]) rfl ?_
   refine XS.aloadN X11.here hx rfl (Y 61 rfl) rfl rfl ?_
   show oS p e below T11 (mkF m 107 #[rv a0, iv ((own_n ((pp + 1) + (Dg - 12)))), .val (.long y), .second] [(.ref a0)]) _
   refine XS.iloadN X11.here hx rfl (Y 62 rfl) rfl ?_
   refine XT.lloadN X11.here hx rfl (Y 63 rfl) rfl ?_
   refine X11.ldc2J hx hown (mvT hZ (oq hw 265 rfl)) rfl (Y 64 rfl) ?_
   refine st12 _ ?_
   show oS p e below T12 (mkF m 115 #[rv a0, iv ((own_n ((pp + 1) + (Dg - 12)))), .val (.long y), .second] [(.int (own_n (((pp + 1) + (Dg - 12)) + if y / (100000000000 : Int64) = 0 ∧ ¬ (100000000000 : Int64) = 1 then 0 else 1)))]) _
   rw [own_Dres (j := 11) (P0 := (pp + 1)) (P := ((pp + 1) + (Dg - 12))) (Dg := Dg) (by decide) hDg (by omega)]
   show oS p e below T12 (mkF m 115 #[rv a0, iv ((own_n ((pp + 1) + (Dg - 12)))), .val (.long y), .second] [(.int (own_n ((pp + 1) + (Dg - 11))))]) _
   refine XS.istoreN X12.here hx rfl (Y 66 rfl) rfl (l' := #[rv a0, iv ((own_n ((pp + 1) + (Dg - 11)))), .val (.long y), .second]) rfl ?_
   refine XS.aloadN X12.here hx rfl (Y 67 rfl) rfl rfl ?_
   refine XS.iloadN X12.here hx rfl (Y 68 rfl) rfl ?_
   refine XT.lloadN X12.here hx rfl (Y 69 rfl) rfl ?_
   refine X12.ldc2J hx hown (mvT hZ (oq hw 266 rfl)) rfl (Y 70 rfl) ?_
   show oS p e below T12 (mkF m 122 #[rv a0, iv ((own_n ((pp + 1) + (Dg - 11)))), .val (.long y), .second] [(.long 10000000000), (.long y), (.int (own_n ((pp + 1) + (Dg - 11)))), (.ref a0)]) _
   refine st13 _ ?_
   show oS p e below T13 (mkF m 125 #[rv a0, iv ((own_n ((pp + 1) + (Dg - 11)))), .val (.long y), .second] [(.int (own_n (((pp + 1) + (Dg - 11)) + if y / (10000000000 : Int64) = 0 ∧ ¬ (10000000000 : Int64) = 1 then 0 else 1)))]) _
   rw [own_Dres (j := 10) (P0 := (pp + 1)) (P := ((pp + 1) + (Dg - 11))) (Dg := Dg) (by decide) hDg (by omega)]
   show oS p e below T13 (mkF m 125 #[rv a0, iv ((own_n ((pp + 1) + (Dg - 11)))), .val (.long y), .second] [(.int (own_n ((pp + 1) + (Dg - 10))))]) _
   refine XS.istoreN X13.here hx rfl (Y 72 rfl) rfl (l' := #[rv a0, iv ((own_n ((pp + 1) + (Dg - 10)))), .val (.long y), .second]) rfl ?_
   refine XS.aloadN X13.here hx rfl (Y 73 rfl) rfl rfl ?_
   refine XS.iloadN X13.here hx rfl (Y 74 rfl) rfl ?_
   refine XT.lloadN X13.here hx rfl (Y 75 rfl) rfl ?_
   refine X13.ldc2J hx hown (mvT hZ (oq hw 267 rfl)) rfl (Y 76 rfl) ?_
   refine st14 _ ?_
   show oS p e below T14 (mkF m 135 #[rv a0, iv ((own_n ((pp + 1) + (Dg - 10)))), .val (.long y), .second] [(.int (own_n (((pp + 1) + (Dg - 10)) + if y / (1000000000 : Int64) = 0 ∧ ¬ (1000000000 : Int64) = 1 then 0 else 1)))]) _
   rw [own_Dres (j := 9) (P0 := (pp + 1)) (P := ((pp + 1) + (Dg - 10))) (Dg := Dg) (by decide) hDg (by omega)]
   show oS p e below T14 (mkF m 135 #[rv a0, iv ((own_n ((pp + 1) + (Dg - 10)))), .val (.long y), .second] [(.int (own_n ((pp + 1) + (Dg - 9))))]) _
   refine XS.istoreN X14.here hx rfl (Y 78 rfl) rfl (l' := #[rv a0, iv ((own_n ((pp + 1) + (Dg - 9)))), .val (.long y), .second]) rfl ?_
   show oS p e below T14 (mkF m 136 #[rv a0, iv ((own_n ((pp + 1) + (Dg - 9)))), .val (.long y), .second] []) _
   refine XS.aloadN X14.here hx rfl (Y 79 rfl) rfl rfl ?_
   refine XS.iloadN X14.here hx rfl (Y 80 rfl) rfl ?_
   refine XT.lloadN X14.here hx rfl (Y 81 rfl) rfl ?_
   refine X14.ldc2J hx hown (mvT hZ (oq hw 268 rfl)) rfl (Y 82 rfl) ?_
   refine st15 _ ?_
   show oS p e below T15 (mkF m 145 #[rv a0, iv ((own_n ((pp + 1) + (Dg - 9)))), .val (.long y), .second] [(.int (own_n (((pp + 1) + (Dg - 9)) + if y / (100000000 : Int64) = 0 ∧ ¬ (100000000 : Int64) = 1 then 0 else 1)))]) _
   rw [own_Dres (j := 8) (P0 := (pp + 1)) (P := ((pp + 1) + (Dg - 9))) (Dg := Dg) (by decide) hDg (by omega)]
   show oS p e below T15 (mkF m 145 #[rv a0, iv ((own_n ((pp + 1) + (Dg - 9)))), .val (.long y), .second] [(.int (own_n ((pp + 1) + (Dg - 8))))]) _
   refine XS.istoreN X15.here hx rfl (Y 84 rfl) rfl (l' := #[rv a0, iv ((own_n ((pp + 1) + (Dg - 8)))), .val (.long y), .second]) rfl ?_
   refine XS.aloadN X15.here hx rfl (Y 85 rfl) rfl rfl ?_
   refine XS.iloadN X15.here hx rfl (Y 86 rfl) rfl ?_
   refine XT.lloadN X15.here hx rfl (Y 87 rfl) rfl ?_
   show oS p e below T15 (mkF m 149 #[rv a0, iv ((own_n ((pp + 1) + (Dg - 8)))), .val (.long y), .second] [(.long y), (.int (own_n ((pp + 1) + (Dg - 8)))), (.ref a0)]) _
   refine X15.ldc2J hx hown (mvT hZ (oq hw 269 rfl)) rfl (Y 88 rfl) ?_
   refine st16 _ ?_
   show oS p e below T16 (mkF m 155 #[rv a0, iv ((own_n ((pp + 1) + (Dg - 8)))), .val (.long y), .second] [(.int (own_n (((pp + 1) + (Dg - 8)) + if y / (10000000 : Int64) = 0 ∧ ¬ (10000000 : Int64) = 1 then 0 else 1)))]) _
   rw [own_Dres (j := 7) (P0 := (pp + 1)) (P := ((pp + 1) + (Dg - 8))) (Dg := Dg) (by decide) hDg (by omega)]
   show oS p e below T16 (mkF m 155 #[rv a0, iv ((own_n ((pp + 1) + (Dg - 8)))), .val (.long y), .second] [(.int (own_n ((pp + 1) + (Dg - 7))))]) _
   refine XS.istoreN X16.here hx rfl (Y 90 rfl) rfl (l' := #[rv a0, iv ((own_n ((pp + 1) + (Dg - 7)))), .val (.long y), .second]) rfl ?_
   refine XS.aloadN X16.here hx rfl (Y 91 rfl) rfl rfl ?_
   refine XS.iloadN X16.here hx rfl (Y 92 rfl) rfl ?_
   refine XT.lloadN X16.here hx rfl (Y 93 rfl) rfl ?_
   refine X16.ldc2J hx hown (mvT hZ (oq hw 270 rfl)) rfl (Y 94 rfl) ?_
   refine st17 _ ?_
   show oS p e below T17 (mkF m 165 #[rv a0, iv ((own_n ((pp + 1) + (Dg - 7)))), .val (.long y), .second] [(.int (own_n (((pp + 1) + (Dg - 7)) + if y / (1000000 : Int64) = 0 ∧ ¬ (1000000 : Int64) = 1 then 0 else 1)))]) _
   rw [own_Dres (j := 6) (P0 := (pp + 1)) (P := ((pp + 1) + (Dg - 7))) (Dg := Dg) (by decide) hDg (by omega)]
   show oS p e below T17 (mkF m 165 #[rv a0, iv ((own_n ((pp + 1) + (Dg - 7)))), .val (.long y), .second] [(.int (own_n ((pp + 1) + (Dg - 6))))]) _
   refine XS.istoreN X17.here hx rfl (Y 96 rfl) rfl (l' := #[rv a0, iv ((own_n ((pp + 1) + (Dg - 6)))), .val (.long y), .second]) rfl ?_
   refine XS.aloadN X17.here hx rfl (Y 97 rfl) rfl rfl ?_
   refine XS.iloadN X17.here hx rfl (Y 98 rfl) rfl ?_
   refine XT.lloadN X17.here hx rfl (Y 99 rfl) rfl ?_
   refine X17.ldc2J hx hown (mvT hZ (oq hw 271 rfl)) rfl (Y 100 rfl) ?_
   refine st18 _ ?_
   show oS p e below T18 (mkF m 175 #[rv a0, iv ((own_n ((pp + 1) + (Dg - 6)))), .val (.long y), .second] [(.int (own_n (((pp + 1) + (Dg - 6)) + if y / (100000 : Int64) = 0 ∧ ¬ (100000 : Int64) = 1 then 0 else 1)))]) _
   rw [own_Dres (j := 5) (P0 := (pp + 1)) (P := ((pp + 1) + (Dg - 6))) (Dg := Dg) (by decide) hDg (by omega)]
   show oS p e below T18 (mkF m 175 #[rv a0, iv ((own_n ((pp + 1) + (Dg - 6)))), .val (.long y), .second] [(.int (own_n ((pp + 1) + (Dg - 5))))]) _
   refine XS.istoreN X18.here hx rfl (Y 102 rfl) rfl (l' := #[rv a0, iv ((own_n ((pp + 1) + (Dg - 5)))), .val (.long y), .second]) rfl ?_
   refine XS.aloadN X18.here hx rfl (Y 103 rfl) rfl rfl ?_
   refine XS.iloadN X18.here hx rfl (Y 104 rfl) rfl ?_
   show oS p e below T18 (mkF m 178 #[rv a0, iv ((own_n ((pp + 1) + (Dg - 5)))), .val (.long y), .second] [(.int (own_n ((pp + 1) + (Dg - 5)))), (.ref a0)]) _
   refine XT.lloadN X18.here hx rfl (Y 105 rfl) rfl ?_
   refine X18.ldc2J hx hown (mvT hZ (oq hw 272 rfl)) rfl (Y 106 rfl) ?_
   refine st19 _ ?_
   show oS p e below T19 (mkF m 185 #[rv a0, iv ((own_n ((pp + 1) + (Dg - 5)))), .val (.long y), .second] [(.int (own_n (((pp + 1) + (Dg - 5)) + if y / (10000 : Int64) = 0 ∧ ¬ (10000 : Int64) = 1 then 0 else 1)))]) _
   rw [own_Dres (j := 4) (P0 := (pp + 1)) (P := ((pp + 1) + (Dg - 5))) (Dg := Dg) (by decide) hDg (by omega)]
   show oS p e below T19 (mkF m 185 #[rv a0, iv ((own_n ((pp + 1) + (Dg - 5)))), .val (.long y), .second] [(.int (own_n ((pp + 1) + (Dg - 4))))]) _
   refine XS.istoreN X19.here hx rfl (Y 108 rfl) rfl (l' := #[rv a0, iv ((own_n ((pp + 1) + (Dg - 4)))), .val (.long y), .second]) rfl ?_
   refine XS.aloadN X19.here hx rfl (Y 109 rfl) rfl rfl ?_
   refine XS.iloadN X19.here hx rfl (Y 110 rfl) rfl ?_
   refine XT.lloadN X19.here hx rfl (Y 111 rfl) rfl ?_
   refine X19.ldc2J hx hown (mvT hZ (oq hw 273 rfl)) rfl (Y 112 rfl) ?_
   refine st20 _ ?_
   show oS p e below T20 (mkF m 195 #[rv a0, iv ((own_n ((pp + 1) + (Dg - 4)))), .val (.long y), .second] [(.int (own_n (((pp + 1) + (Dg - 4)) + if y / (1000 : Int64) = 0 ∧ ¬ (1000 : Int64) = 1 then 0 else 1)))]) _
   rw [own_Dres (j := 3) (P0 := (pp + 1)) (P := ((pp + 1) + (Dg - 4))) (Dg := Dg) (by decide) hDg (by omega)]
   show oS p e below T20 (mkF m 195 #[rv a0, iv ((own_n ((pp + 1) + (Dg - 4)))), .val (.long y), .second] [(.int (own_n ((pp + 1) + (Dg - 3))))]) _
   refine XS.istoreN X20.here hx rfl (Y 114 rfl) rfl (l' := #[rv a0, iv ((own_n ((pp + 1) + (Dg - 3)))), .val (.long y), .second]) rfl ?_
   refine XS.aloadN X20.here hx rfl (Y 115 rfl) rfl rfl ?_
   refine XS.iloadN X20.here hx rfl (Y 116 rfl) rfl ?_
   refine XT.lloadN X20.here hx rfl (Y 117 rfl) rfl ?_
   refine X20.ldc2J hx hown (mvT hZ (oq hw 274 rfl)) rfl (Y 118 rfl) ?_
   refine st21 _ ?_
   show oS p e below T21 (mkF m 205 #[rv a0, iv ((own_n ((pp + 1) + (Dg - 3)))), .val (.long y), .second] [(.int (own_n (((pp + 1) + (Dg - 3)) + if y / (100 : Int64) = 0 ∧ ¬ (100 : Int64) = 1 then 0 else 1)))]) _
   rw [own_Dres (j := 2) (P0 := (pp + 1)) (P := ((pp + 1) + (Dg - 3))) (Dg := Dg) (by decide) hDg (by omega)]
   show oS p e below T21 (mkF m 205 #[rv a0, iv ((own_n ((pp + 1) + (Dg - 3)))), .val (.long y), .second] [(.int (own_n ((pp + 1) + (Dg - 2))))]) _
   refine XS.istoreN X21.here hx rfl (Y 120 rfl) rfl (l' := #[rv a0, iv ((own_n ((pp + 1) + (Dg - 2)))), .val (.long y), .second]) rfl ?_
   refine XS.aloadN X21.here hx rfl (Y 121 rfl) rfl rfl ?_
   show oS p e below T21 (mkF m 207 #[rv a0, iv ((own_n ((pp + 1) + (Dg - 2)))), .val (.long y), .second] [(.ref a0)]) _
   refine XS.iloadN X21.here hx rfl (Y 122 rfl) rfl ?_
   refine XT.lloadN X21.here hx rfl (Y 123 rfl) rfl ?_
   refine X21.ldc2J hx hown (mvT hZ (oq hw 275 rfl)) rfl (Y 124 rfl) ?_
   refine st22 _ ?_
   show oS p e below T22 (mkF m 215 #[rv a0, iv ((own_n ((pp + 1) + (Dg - 2)))), .val (.long y), .second] [(.int (own_n (((pp + 1) + (Dg - 2)) + if y / (10 : Int64) = 0 ∧ ¬ (10 : Int64) = 1 then 0 else 1)))]) _
   rw [own_Dres (j := 1) (P0 := (pp + 1)) (P := ((pp + 1) + (Dg - 2))) (Dg := Dg) (by decide) hDg (by omega)]
   show oS p e below T22 (mkF m 215 #[rv a0, iv ((own_n ((pp + 1) + (Dg - 2)))), .val (.long y), .second] [(.int (own_n ((pp + 1) + (Dg - 1))))]) _
   refine XS.istoreN X22.here hx rfl (Y 126 rfl) rfl (l' := #[rv a0, iv ((own_n ((pp + 1) + (Dg - 1)))), .val (.long y), .second]) rfl ?_
   refine XS.aloadN X22.here hx rfl (Y 127 rfl) rfl rfl ?_
   refine XS.iloadN X22.here hx rfl (Y 128 rfl) rfl ?_
   refine XT.lloadN X22.here hx rfl (Y 129 rfl) rfl ?_
   refine XT.lconstV X22.here hx rfl (1 : Int64) (Y 130 rfl) (by decide) ?_
   show oS p e below T22 (mkF m 220 #[rv a0, iv ((own_n ((pp + 1) + (Dg - 1)))), .val (.long y), .second] [(.long 1), (.long y), (.int (own_n ((pp + 1) + (Dg - 1)))), (.ref a0)]) _
   refine st23 _ ?_
   show oS p e below T23 (mkF m 223 #[rv a0, iv ((own_n ((pp + 1) + (Dg - 1)))), .val (.long y), .second] [(.int (own_n (((pp + 1) + (Dg - 1)) + if y / (1 : Int64) = 0 ∧ ¬ (1 : Int64) = 1 then 0 else 1)))]) _
   rw [own_Dres (j := 0) (P0 := (pp + 1)) (P := ((pp + 1) + (Dg - 1))) (Dg := Dg) (by decide) hDg (by omega)]
   show oS p e below T23 (mkF m 223 #[rv a0, iv ((own_n ((pp + 1) + (Dg - 1)))), .val (.long y), .second] [(.int (own_n ((pp + 1) + (Dg - 0))))]) _
   refine XS.istoreN X23.here hx rfl (Y 132 rfl) rfl (l' := #[rv a0, iv ((own_n ((pp + 1) + (Dg - 0)))), .val (.long y), .second]) rfl ?_
   refine XS.iloadN X23.here hx rfl (Y 133 rfl) rfl ?_
   exact kz)
  obtain ⟨fs, hr, hrun, hended, hW, hsame⟩ := X23.leave (v := some (.int (own_n ((pp + 1) + (Dg - 0))))) (fun h => by rw [Bd.returns] at h; cases h)
  refine ⟨_, _, pre0 _ (S24 _ ?_), hrun, hended, _, _, rfl, ?_, ⟨_, rfl⟩, hW, hsame.mono (by decide) (by decide)⟩
  · exact retI X23 hx Bd.returns (Y 134 rfl) hr
  · show Qrmnum Z a0 b0 n g pp y fm wC h0 n0 _ T23.heap _
    rw [e23]
    exact ⟨by rw [show ((pp + 1) + (Dg - 0)) = pp + own_sz y.toInt by omega], N23, rfl⟩
 ·have hz : ¬ y.toInt < 0 := by have := own_gtFL (k := y.toInt) (z := 0) hc9_2 rfl rfl; omega
  have hsz : own_sz y.toInt = Dg + 0 := by unfold own_sz; rw [if_neg hz, hDg]
  obtain ⟨_, T25, Lc25, X25, hQ25, st25⟩ := own_callS (W := 0) (y := mN41) X0 hx hZ hown (oq hw 256 rfl) (oq hw 257 rfl) (oq hw 223 rfl) (oq hw 258 rfl) (by decide) (rmd l Z av0 hw [] a0 b0 n g pp (y.toInt.natAbs / 10 ^ 18 % 10) y (1000000000000000000 : Int64) fm wC h0 n0 Z0 hD ⟨by omega, by omega⟩ (by decide) (own_Dpre (j := 18) (P0 := pp) (pp := pp) (ng := 0) (Dg := Dg) (by decide) hDg (by omega) hsz (by omega) hbd.1 hq) hfm hFm hSC hwC) (by decide) (by decide) (g := (mkF m 42 #[rv a0, iv (own_n pp), .val (.long y), .second] [(.long 1000000000000000000), (.long y), (.int (own_n pp)), (.ref a0)])) rfl (by rw [hml]; rfl) (argsL := [(.ref a0), (.int (own_n pp)), (.long y), (.long 1000000000000000000)]) (rest := []) (lenOf pd__Ljava_lang_String_IJJ_I rfl) rfl (Y 23 rfl) rfl e0 (by decide : 0 + 0 ≤ _) (by decide : 0 + 0 ≤ _)
  obtain ⟨rfl, N25q, hh25⟩ := hQ25
  have N25 := Fr.app N0 N25q
  have e25 : T25.heap = h0 := hh25
  obtain ⟨_, T26, Lc26, X26, hQ26, st26⟩ := own_callS (W := 0) (y := mN41) X25 hx hZ hown (oq hw 256 rfl) (oq hw 257 rfl) (oq hw 223 rfl) (oq hw 258 rfl) (by decide) (rmd l Z av0 hw [] a0 b0 n g (pp + (Dg - 18)) (y.toInt.natAbs / 10 ^ 17 % 10) y (100000000000000000 : Int64) fm wC h0 n0 Z0 hD ⟨by omega, by omega⟩ (by decide) (own_Dpre (j := 17) (P0 := pp) (pp := pp) (ng := 0) (Dg := Dg) (by decide) hDg (by omega) hsz (by omega) hbd.1 hq) hfm hFm hSC hwC) (by decide) (by decide) (g := (mkF m 52 #[rv a0, iv ((own_n (pp + (Dg - 18)))), .val (.long y), .second] [(.long 100000000000000000), (.long y), (.int (own_n (pp + (Dg - 18)))), (.ref a0)])) rfl (by rw [hml]; rfl) (argsL := [(.ref a0), (.int (own_n (pp + (Dg - 18)))), (.long y), (.long 100000000000000000)]) (rest := []) (lenOf pd__Ljava_lang_String_IJJ_I rfl) rfl (Y 29 rfl) rfl e25 (by decide : 0 + 0 ≤ _) (by decide : 0 + 0 ≤ _)
  obtain ⟨rfl, N26q, hh26⟩ := hQ26
  have N26 := Fr.app N25 N26q
  have e26 : T26.heap = h0 := hh26
  obtain ⟨_, T27, Lc27, X27, hQ27, st27⟩ := own_callS (W := 0) (y := mN41) X26 hx hZ hown (oq hw 256 rfl) (oq hw 257 rfl) (oq hw 223 rfl) (oq hw 258 rfl) (by decide) (rmd l Z av0 hw [] a0 b0 n g (pp + (Dg - 17)) (y.toInt.natAbs / 10 ^ 16 % 10) y (10000000000000000 : Int64) fm wC h0 n0 Z0 hD ⟨by omega, by omega⟩ (by decide) (own_Dpre (j := 16) (P0 := pp) (pp := pp) (ng := 0) (Dg := Dg) (by decide) hDg (by omega) hsz (by omega) hbd.1 hq) hfm hFm hSC hwC) (by decide) (by decide) (g := (mkF m 62 #[rv a0, iv ((own_n (pp + (Dg - 17)))), .val (.long y), .second] [(.long 10000000000000000), (.long y), (.int (own_n (pp + (Dg - 17)))), (.ref a0)])) rfl (by rw [hml]; rfl) (argsL := [(.ref a0), (.int (own_n (pp + (Dg - 17)))), (.long y), (.long 10000000000000000)]) (rest := []) (lenOf pd__Ljava_lang_String_IJJ_I rfl) rfl (Y 35 rfl) rfl e26 (by decide : 0 + 0 ≤ _) (by decide : 0 + 0 ≤ _)
  obtain ⟨rfl, N27q, hh27⟩ := hQ27
  have N27 := Fr.app N26 N27q
  have e27 : T27.heap = h0 := hh27
  obtain ⟨_, T28, Lc28, X28, hQ28, st28⟩ := own_callS (W := 0) (y := mN41) X27 hx hZ hown (oq hw 256 rfl) (oq hw 257 rfl) (oq hw 223 rfl) (oq hw 258 rfl) (by decide) (rmd l Z av0 hw [] a0 b0 n g (pp + (Dg - 16)) (y.toInt.natAbs / 10 ^ 15 % 10) y (1000000000000000 : Int64) fm wC h0 n0 Z0 hD ⟨by omega, by omega⟩ (by decide) (own_Dpre (j := 15) (P0 := pp) (pp := pp) (ng := 0) (Dg := Dg) (by decide) hDg (by omega) hsz (by omega) hbd.1 hq) hfm hFm hSC hwC) (by decide) (by decide) (g := (mkF m 72 #[rv a0, iv ((own_n (pp + (Dg - 16)))), .val (.long y), .second] [(.long 1000000000000000), (.long y), (.int (own_n (pp + (Dg - 16)))), (.ref a0)])) rfl (by rw [hml]; rfl) (argsL := [(.ref a0), (.int (own_n (pp + (Dg - 16)))), (.long y), (.long 1000000000000000)]) (rest := []) (lenOf pd__Ljava_lang_String_IJJ_I rfl) rfl (Y 41 rfl) rfl e27 (by decide : 0 + 0 ≤ _) (by decide : 0 + 0 ≤ _)
  obtain ⟨rfl, N28q, hh28⟩ := hQ28
  have N28 := Fr.app N27 N28q
  have e28 : T28.heap = h0 := hh28
  obtain ⟨_, T29, Lc29, X29, hQ29, st29⟩ := own_callS (W := 0) (y := mN41) X28 hx hZ hown (oq hw 256 rfl) (oq hw 257 rfl) (oq hw 223 rfl) (oq hw 258 rfl) (by decide) (rmd l Z av0 hw [] a0 b0 n g (pp + (Dg - 15)) (y.toInt.natAbs / 10 ^ 14 % 10) y (100000000000000 : Int64) fm wC h0 n0 Z0 hD ⟨by omega, by omega⟩ (by decide) (own_Dpre (j := 14) (P0 := pp) (pp := pp) (ng := 0) (Dg := Dg) (by decide) hDg (by omega) hsz (by omega) hbd.1 hq) hfm hFm hSC hwC) (by decide) (by decide) (g := (mkF m 82 #[rv a0, iv ((own_n (pp + (Dg - 15)))), .val (.long y), .second] [(.long 100000000000000), (.long y), (.int (own_n (pp + (Dg - 15)))), (.ref a0)])) rfl (by rw [hml]; rfl) (argsL := [(.ref a0), (.int (own_n (pp + (Dg - 15)))), (.long y), (.long 100000000000000)]) (rest := []) (lenOf pd__Ljava_lang_String_IJJ_I rfl) rfl (Y 47 rfl) rfl e28 (by decide : 0 + 0 ≤ _) (by decide : 0 + 0 ≤ _)
  obtain ⟨rfl, N29q, hh29⟩ := hQ29
  have N29 := Fr.app N28 N29q
  have e29 : T29.heap = h0 := hh29
  obtain ⟨_, T30, Lc30, X30, hQ30, st30⟩ := own_callS (W := 0) (y := mN41) X29 hx hZ hown (oq hw 256 rfl) (oq hw 257 rfl) (oq hw 223 rfl) (oq hw 258 rfl) (by decide) (rmd l Z av0 hw [] a0 b0 n g (pp + (Dg - 14)) (y.toInt.natAbs / 10 ^ 13 % 10) y (10000000000000 : Int64) fm wC h0 n0 Z0 hD ⟨by omega, by omega⟩ (by decide) (own_Dpre (j := 13) (P0 := pp) (pp := pp) (ng := 0) (Dg := Dg) (by decide) hDg (by omega) hsz (by omega) hbd.1 hq) hfm hFm hSC hwC) (by decide) (by decide) (g := (mkF m 92 #[rv a0, iv ((own_n (pp + (Dg - 14)))), .val (.long y), .second] [(.long 10000000000000), (.long y), (.int (own_n (pp + (Dg - 14)))), (.ref a0)])) rfl (by rw [hml]; rfl) (argsL := [(.ref a0), (.int (own_n (pp + (Dg - 14)))), (.long y), (.long 10000000000000)]) (rest := []) (lenOf pd__Ljava_lang_String_IJJ_I rfl) rfl (Y 53 rfl) rfl e29 (by decide : 0 + 0 ≤ _) (by decide : 0 + 0 ≤ _)
  obtain ⟨rfl, N30q, hh30⟩ := hQ30
  have N30 := Fr.app N29 N30q
  have e30 : T30.heap = h0 := hh30
  obtain ⟨_, T31, Lc31, X31, hQ31, st31⟩ := own_callS (W := 0) (y := mN41) X30 hx hZ hown (oq hw 256 rfl) (oq hw 257 rfl) (oq hw 223 rfl) (oq hw 258 rfl) (by decide) (rmd l Z av0 hw [] a0 b0 n g (pp + (Dg - 13)) (y.toInt.natAbs / 10 ^ 12 % 10) y (1000000000000 : Int64) fm wC h0 n0 Z0 hD ⟨by omega, by omega⟩ (by decide) (own_Dpre (j := 12) (P0 := pp) (pp := pp) (ng := 0) (Dg := Dg) (by decide) hDg (by omega) hsz (by omega) hbd.1 hq) hfm hFm hSC hwC) (by decide) (by decide) (g := (mkF m 102 #[rv a0, iv ((own_n (pp + (Dg - 13)))), .val (.long y), .second] [(.long 1000000000000), (.long y), (.int (own_n (pp + (Dg - 13)))), (.ref a0)])) rfl (by rw [hml]; rfl) (argsL := [(.ref a0), (.int (own_n (pp + (Dg - 13)))), (.long y), (.long 1000000000000)]) (rest := []) (lenOf pd__Ljava_lang_String_IJJ_I rfl) rfl (Y 59 rfl) rfl e30 (by decide : 0 + 0 ≤ _) (by decide : 0 + 0 ≤ _)
  obtain ⟨rfl, N31q, hh31⟩ := hQ31
  have N31 := Fr.app N30 N31q
  have e31 : T31.heap = h0 := hh31
  obtain ⟨_, T32, Lc32, X32, hQ32, st32⟩ := own_callS (W := 0) (y := mN41) X31 hx hZ hown (oq hw 256 rfl) (oq hw 257 rfl) (oq hw 223 rfl) (oq hw 258 rfl) (by decide) (rmd l Z av0 hw [] a0 b0 n g (pp + (Dg - 12)) (y.toInt.natAbs / 10 ^ 11 % 10) y (100000000000 : Int64) fm wC h0 n0 Z0 hD ⟨by omega, by omega⟩ (by decide) (own_Dpre (j := 11) (P0 := pp) (pp := pp) (ng := 0) (Dg := Dg) (by decide) hDg (by omega) hsz (by omega) hbd.1 hq) hfm hFm hSC hwC) (by decide) (by decide) (g := (mkF m 112 #[rv a0, iv ((own_n (pp + (Dg - 12)))), .val (.long y), .second] [(.long 100000000000), (.long y), (.int (own_n (pp + (Dg - 12)))), (.ref a0)])) rfl (by rw [hml]; rfl) (argsL := [(.ref a0), (.int (own_n (pp + (Dg - 12)))), (.long y), (.long 100000000000)]) (rest := []) (lenOf pd__Ljava_lang_String_IJJ_I rfl) rfl (Y 65 rfl) rfl e31 (by decide : 0 + 0 ≤ _) (by decide : 0 + 0 ≤ _)
  obtain ⟨rfl, N32q, hh32⟩ := hQ32
  have N32 := Fr.app N31 N32q
  have e32 : T32.heap = h0 := hh32
  obtain ⟨_, T33, Lc33, X33, hQ33, st33⟩ := own_callS (W := 0) (y := mN41) X32 hx hZ hown (oq hw 256 rfl) (oq hw 257 rfl) (oq hw 223 rfl) (oq hw 258 rfl) (by decide) (rmd l Z av0 hw [] a0 b0 n g (pp + (Dg - 11)) (y.toInt.natAbs / 10 ^ 10 % 10) y (10000000000 : Int64) fm wC h0 n0 Z0 hD ⟨by omega, by omega⟩ (by decide) (own_Dpre (j := 10) (P0 := pp) (pp := pp) (ng := 0) (Dg := Dg) (by decide) hDg (by omega) hsz (by omega) hbd.1 hq) hfm hFm hSC hwC) (by decide) (by decide) (g := (mkF m 122 #[rv a0, iv ((own_n (pp + (Dg - 11)))), .val (.long y), .second] [(.long 10000000000), (.long y), (.int (own_n (pp + (Dg - 11)))), (.ref a0)])) rfl (by rw [hml]; rfl) (argsL := [(.ref a0), (.int (own_n (pp + (Dg - 11)))), (.long y), (.long 10000000000)]) (rest := []) (lenOf pd__Ljava_lang_String_IJJ_I rfl) rfl (Y 71 rfl) rfl e32 (by decide : 0 + 0 ≤ _) (by decide : 0 + 0 ≤ _)
  obtain ⟨rfl, N33q, hh33⟩ := hQ33
  have N33 := Fr.app N32 N33q
  have e33 : T33.heap = h0 := hh33
  obtain ⟨_, T34, Lc34, X34, hQ34, st34⟩ := own_callS (W := 0) (y := mN41) X33 hx hZ hown (oq hw 256 rfl) (oq hw 257 rfl) (oq hw 223 rfl) (oq hw 258 rfl) (by decide) (rmd l Z av0 hw [] a0 b0 n g (pp + (Dg - 10)) (y.toInt.natAbs / 10 ^ 9 % 10) y (1000000000 : Int64) fm wC h0 n0 Z0 hD ⟨by omega, by omega⟩ (by decide) (own_Dpre (j := 9) (P0 := pp) (pp := pp) (ng := 0) (Dg := Dg) (by decide) hDg (by omega) hsz (by omega) hbd.1 hq) hfm hFm hSC hwC) (by decide) (by decide) (g := (mkF m 132 #[rv a0, iv ((own_n (pp + (Dg - 10)))), .val (.long y), .second] [(.long 1000000000), (.long y), (.int (own_n (pp + (Dg - 10)))), (.ref a0)])) rfl (by rw [hml]; rfl) (argsL := [(.ref a0), (.int (own_n (pp + (Dg - 10)))), (.long y), (.long 1000000000)]) (rest := []) (lenOf pd__Ljava_lang_String_IJJ_I rfl) rfl (Y 77 rfl) rfl e33 (by decide : 0 + 0 ≤ _) (by decide : 0 + 0 ≤ _)
  obtain ⟨rfl, N34q, hh34⟩ := hQ34
  have N34 := Fr.app N33 N34q
  have e34 : T34.heap = h0 := hh34
  obtain ⟨_, T35, Lc35, X35, hQ35, st35⟩ := own_callS (W := 0) (y := mN41) X34 hx hZ hown (oq hw 256 rfl) (oq hw 257 rfl) (oq hw 223 rfl) (oq hw 258 rfl) (by decide) (rmd l Z av0 hw [] a0 b0 n g (pp + (Dg - 9)) (y.toInt.natAbs / 10 ^ 8 % 10) y (100000000 : Int64) fm wC h0 n0 Z0 hD ⟨by omega, by omega⟩ (by decide) (own_Dpre (j := 8) (P0 := pp) (pp := pp) (ng := 0) (Dg := Dg) (by decide) hDg (by omega) hsz (by omega) hbd.1 hq) hfm hFm hSC hwC) (by decide) (by decide) (g := (mkF m 142 #[rv a0, iv ((own_n (pp + (Dg - 9)))), .val (.long y), .second] [(.long 100000000), (.long y), (.int (own_n (pp + (Dg - 9)))), (.ref a0)])) rfl (by rw [hml]; rfl) (argsL := [(.ref a0), (.int (own_n (pp + (Dg - 9)))), (.long y), (.long 100000000)]) (rest := []) (lenOf pd__Ljava_lang_String_IJJ_I rfl) rfl (Y 83 rfl) rfl e34 (by decide : 0 + 0 ≤ _) (by decide : 0 + 0 ≤ _)
  obtain ⟨rfl, N35q, hh35⟩ := hQ35
  have N35 := Fr.app N34 N35q
  have e35 : T35.heap = h0 := hh35
  obtain ⟨_, T36, Lc36, X36, hQ36, st36⟩ := own_callS (W := 0) (y := mN41) X35 hx hZ hown (oq hw 256 rfl) (oq hw 257 rfl) (oq hw 223 rfl) (oq hw 258 rfl) (by decide) (rmd l Z av0 hw [] a0 b0 n g (pp + (Dg - 8)) (y.toInt.natAbs / 10 ^ 7 % 10) y (10000000 : Int64) fm wC h0 n0 Z0 hD ⟨by omega, by omega⟩ (by decide) (own_Dpre (j := 7) (P0 := pp) (pp := pp) (ng := 0) (Dg := Dg) (by decide) hDg (by omega) hsz (by omega) hbd.1 hq) hfm hFm hSC hwC) (by decide) (by decide) (g := (mkF m 152 #[rv a0, iv ((own_n (pp + (Dg - 8)))), .val (.long y), .second] [(.long 10000000), (.long y), (.int (own_n (pp + (Dg - 8)))), (.ref a0)])) rfl (by rw [hml]; rfl) (argsL := [(.ref a0), (.int (own_n (pp + (Dg - 8)))), (.long y), (.long 10000000)]) (rest := []) (lenOf pd__Ljava_lang_String_IJJ_I rfl) rfl (Y 89 rfl) rfl e35 (by decide : 0 + 0 ≤ _) (by decide : 0 + 0 ≤ _)
  obtain ⟨rfl, N36q, hh36⟩ := hQ36
  have N36 := Fr.app N35 N36q
  have e36 : T36.heap = h0 := hh36
  obtain ⟨_, T37, Lc37, X37, hQ37, st37⟩ := own_callS (W := 0) (y := mN41) X36 hx hZ hown (oq hw 256 rfl) (oq hw 257 rfl) (oq hw 223 rfl) (oq hw 258 rfl) (by decide) (rmd l Z av0 hw [] a0 b0 n g (pp + (Dg - 7)) (y.toInt.natAbs / 10 ^ 6 % 10) y (1000000 : Int64) fm wC h0 n0 Z0 hD ⟨by omega, by omega⟩ (by decide) (own_Dpre (j := 6) (P0 := pp) (pp := pp) (ng := 0) (Dg := Dg) (by decide) hDg (by omega) hsz (by omega) hbd.1 hq) hfm hFm hSC hwC) (by decide) (by decide) (g := (mkF m 162 #[rv a0, iv ((own_n (pp + (Dg - 7)))), .val (.long y), .second] [(.long 1000000), (.long y), (.int (own_n (pp + (Dg - 7)))), (.ref a0)])) rfl (by rw [hml]; rfl) (argsL := [(.ref a0), (.int (own_n (pp + (Dg - 7)))), (.long y), (.long 1000000)]) (rest := []) (lenOf pd__Ljava_lang_String_IJJ_I rfl) rfl (Y 95 rfl) rfl e36 (by decide : 0 + 0 ≤ _) (by decide : 0 + 0 ≤ _)
  obtain ⟨rfl, N37q, hh37⟩ := hQ37
  have N37 := Fr.app N36 N37q
  have e37 : T37.heap = h0 := hh37
  obtain ⟨_, T38, Lc38, X38, hQ38, st38⟩ := own_callS (W := 0) (y := mN41) X37 hx hZ hown (oq hw 256 rfl) (oq hw 257 rfl) (oq hw 223 rfl) (oq hw 258 rfl) (by decide) (rmd l Z av0 hw [] a0 b0 n g (pp + (Dg - 6)) (y.toInt.natAbs / 10 ^ 5 % 10) y (100000 : Int64) fm wC h0 n0 Z0 hD ⟨by omega, by omega⟩ (by decide) (own_Dpre (j := 5) (P0 := pp) (pp := pp) (ng := 0) (Dg := Dg) (by decide) hDg (by omega) hsz (by omega) hbd.1 hq) hfm hFm hSC hwC) (by decide) (by decide) (g := (mkF m 172 #[rv a0, iv ((own_n (pp + (Dg - 6)))), .val (.long y), .second] [(.long 100000), (.long y), (.int (own_n (pp + (Dg - 6)))), (.ref a0)])) rfl (by rw [hml]; rfl) (argsL := [(.ref a0), (.int (own_n (pp + (Dg - 6)))), (.long y), (.long 100000)]) (rest := []) (lenOf pd__Ljava_lang_String_IJJ_I rfl) rfl (Y 101 rfl) rfl e37 (by decide : 0 + 0 ≤ _) (by decide : 0 + 0 ≤ _)
  obtain ⟨rfl, N38q, hh38⟩ := hQ38
  have N38 := Fr.app N37 N38q
  have e38 : T38.heap = h0 := hh38
  obtain ⟨_, T39, Lc39, X39, hQ39, st39⟩ := own_callS (W := 0) (y := mN41) X38 hx hZ hown (oq hw 256 rfl) (oq hw 257 rfl) (oq hw 223 rfl) (oq hw 258 rfl) (by decide) (rmd l Z av0 hw [] a0 b0 n g (pp + (Dg - 5)) (y.toInt.natAbs / 10 ^ 4 % 10) y (10000 : Int64) fm wC h0 n0 Z0 hD ⟨by omega, by omega⟩ (by decide) (own_Dpre (j := 4) (P0 := pp) (pp := pp) (ng := 0) (Dg := Dg) (by decide) hDg (by omega) hsz (by omega) hbd.1 hq) hfm hFm hSC hwC) (by decide) (by decide) (g := (mkF m 182 #[rv a0, iv ((own_n (pp + (Dg - 5)))), .val (.long y), .second] [(.long 10000), (.long y), (.int (own_n (pp + (Dg - 5)))), (.ref a0)])) rfl (by rw [hml]; rfl) (argsL := [(.ref a0), (.int (own_n (pp + (Dg - 5)))), (.long y), (.long 10000)]) (rest := []) (lenOf pd__Ljava_lang_String_IJJ_I rfl) rfl (Y 107 rfl) rfl e38 (by decide : 0 + 0 ≤ _) (by decide : 0 + 0 ≤ _)
  obtain ⟨rfl, N39q, hh39⟩ := hQ39
  have N39 := Fr.app N38 N39q
  have e39 : T39.heap = h0 := hh39
  obtain ⟨_, T40, Lc40, X40, hQ40, st40⟩ := own_callS (W := 0) (y := mN41) X39 hx hZ hown (oq hw 256 rfl) (oq hw 257 rfl) (oq hw 223 rfl) (oq hw 258 rfl) (by decide) (rmd l Z av0 hw [] a0 b0 n g (pp + (Dg - 4)) (y.toInt.natAbs / 10 ^ 3 % 10) y (1000 : Int64) fm wC h0 n0 Z0 hD ⟨by omega, by omega⟩ (by decide) (own_Dpre (j := 3) (P0 := pp) (pp := pp) (ng := 0) (Dg := Dg) (by decide) hDg (by omega) hsz (by omega) hbd.1 hq) hfm hFm hSC hwC) (by decide) (by decide) (g := (mkF m 192 #[rv a0, iv ((own_n (pp + (Dg - 4)))), .val (.long y), .second] [(.long 1000), (.long y), (.int (own_n (pp + (Dg - 4)))), (.ref a0)])) rfl (by rw [hml]; rfl) (argsL := [(.ref a0), (.int (own_n (pp + (Dg - 4)))), (.long y), (.long 1000)]) (rest := []) (lenOf pd__Ljava_lang_String_IJJ_I rfl) rfl (Y 113 rfl) rfl e39 (by decide : 0 + 0 ≤ _) (by decide : 0 + 0 ≤ _)
  obtain ⟨rfl, N40q, hh40⟩ := hQ40
  have N40 := Fr.app N39 N40q
  have e40 : T40.heap = h0 := hh40
  obtain ⟨_, T41, Lc41, X41, hQ41, st41⟩ := own_callS (W := 0) (y := mN41) X40 hx hZ hown (oq hw 256 rfl) (oq hw 257 rfl) (oq hw 223 rfl) (oq hw 258 rfl) (by decide) (rmd l Z av0 hw [] a0 b0 n g (pp + (Dg - 3)) (y.toInt.natAbs / 10 ^ 2 % 10) y (100 : Int64) fm wC h0 n0 Z0 hD ⟨by omega, by omega⟩ (by decide) (own_Dpre (j := 2) (P0 := pp) (pp := pp) (ng := 0) (Dg := Dg) (by decide) hDg (by omega) hsz (by omega) hbd.1 hq) hfm hFm hSC hwC) (by decide) (by decide) (g := (mkF m 202 #[rv a0, iv ((own_n (pp + (Dg - 3)))), .val (.long y), .second] [(.long 100), (.long y), (.int (own_n (pp + (Dg - 3)))), (.ref a0)])) rfl (by rw [hml]; rfl) (argsL := [(.ref a0), (.int (own_n (pp + (Dg - 3)))), (.long y), (.long 100)]) (rest := []) (lenOf pd__Ljava_lang_String_IJJ_I rfl) rfl (Y 119 rfl) rfl e40 (by decide : 0 + 0 ≤ _) (by decide : 0 + 0 ≤ _)
  obtain ⟨rfl, N41q, hh41⟩ := hQ41
  have N41 := Fr.app N40 N41q
  have e41 : T41.heap = h0 := hh41
  obtain ⟨_, T42, Lc42, X42, hQ42, st42⟩ := own_callS (W := 0) (y := mN41) X41 hx hZ hown (oq hw 256 rfl) (oq hw 257 rfl) (oq hw 223 rfl) (oq hw 258 rfl) (by decide) (rmd l Z av0 hw [] a0 b0 n g (pp + (Dg - 2)) (y.toInt.natAbs / 10 ^ 1 % 10) y (10 : Int64) fm wC h0 n0 Z0 hD ⟨by omega, by omega⟩ (by decide) (own_Dpre (j := 1) (P0 := pp) (pp := pp) (ng := 0) (Dg := Dg) (by decide) hDg (by omega) hsz (by omega) hbd.1 hq) hfm hFm hSC hwC) (by decide) (by decide) (g := (mkF m 212 #[rv a0, iv ((own_n (pp + (Dg - 2)))), .val (.long y), .second] [(.long 10), (.long y), (.int (own_n (pp + (Dg - 2)))), (.ref a0)])) rfl (by rw [hml]; rfl) (argsL := [(.ref a0), (.int (own_n (pp + (Dg - 2)))), (.long y), (.long 10)]) (rest := []) (lenOf pd__Ljava_lang_String_IJJ_I rfl) rfl (Y 125 rfl) rfl e41 (by decide : 0 + 0 ≤ _) (by decide : 0 + 0 ≤ _)
  obtain ⟨rfl, N42q, hh42⟩ := hQ42
  have N42 := Fr.app N41 N42q
  have e42 : T42.heap = h0 := hh42
  obtain ⟨_, T43, Lc43, X43, hQ43, st43⟩ := own_callS (W := 0) (y := mN41) X42 hx hZ hown (oq hw 256 rfl) (oq hw 257 rfl) (oq hw 223 rfl) (oq hw 258 rfl) (by decide) (rmd l Z av0 hw [] a0 b0 n g (pp + (Dg - 1)) (y.toInt.natAbs / 10 ^ 0 % 10) y (1 : Int64) fm wC h0 n0 Z0 hD ⟨by omega, by omega⟩ (by decide) (own_Dpre (j := 0) (P0 := pp) (pp := pp) (ng := 0) (Dg := Dg) (by decide) hDg (by omega) hsz (by omega) hbd.1 hq) hfm hFm hSC hwC) (by decide) (by decide) (g := (mkF m 220 #[rv a0, iv ((own_n (pp + (Dg - 1)))), .val (.long y), .second] [(.long 1), (.long y), (.int (own_n (pp + (Dg - 1)))), (.ref a0)])) rfl (by rw [hml]; rfl) (argsL := [(.ref a0), (.int (own_n (pp + (Dg - 1)))), (.long y), (.long 1)]) (rest := []) (lenOf pd__Ljava_lang_String_IJJ_I rfl) rfl (Y 131 rfl) rfl e42 (by decide : 0 + 0 ≤ _) (by decide : 0 + 0 ≤ _)
  obtain ⟨rfl, N43q, hh43⟩ := hQ43
  have N43 := Fr.app N42 N43q
  have e43 : T43.heap = h0 := hh43
  have S44 : ∀ tz, oS p e below T43 (mkF m 225 #[rv a0, iv ((own_n (pp + (Dg - 0)))), .val (.long y), .second] [(.int (own_n (pp + (Dg - 0))))]) tz → P0 tz := fun tz kz => S1 tz (by
   refine XS.ifYes X0.here hx rfl (pc0 := 9) (pc' := 36) rfl (Y 5 rfl) rfl (XT.ll_ge_t hc9_2) (by decide) (by decide) ?_
   refine XS.aloadN X0.here hx rfl (Y 19 rfl) rfl rfl ?_
   refine XS.iloadN X0.here hx rfl (Y 20 rfl) rfl ?_
   refine XT.lloadN X0.here hx rfl (Y 21 rfl) rfl ?_
   refine X0.ldc2J hx hown (mvT hZ (oq hw 255 rfl)) rfl (Y 22 rfl) ?_
   show oS p e below s₁ (mkF m 42 #[rv a0, iv (own_n pp), .val (.long y), .second] [(.long 1000000000000000000), (.long y), (.int (own_n pp)), (.ref a0)]) _
   refine st25 _ ?_
   show oS p e below T25 (mkF m 45 #[rv a0, iv (own_n pp), .val (.long y), .second] [(.int (own_n (pp + if y / (1000000000000000000 : Int64) = 0 ∧ ¬ (1000000000000000000 : Int64) = 1 then 0 else 1)))]) _
   rw [own_Dres (j := 18) (P0 := pp) (P := pp) (Dg := Dg) (by decide) hDg (by omega)]
   show oS p e below T25 (mkF m 45 #[rv a0, iv (own_n pp), .val (.long y), .second] [(.int (own_n (pp + (Dg - 18))))]) _
   refine XS.istoreN X25.here hx rfl (Y 24 rfl) rfl (l' := #[rv a0, iv ((own_n (pp + (Dg - 18)))), .val (.long y), .second]) rfl ?_
   refine XS.aloadN X25.here hx rfl (Y 25 rfl) rfl rfl ?_
   refine XS.iloadN X25.here hx rfl (Y 26 rfl) rfl ?_
   refine XT.lloadN X25.here hx rfl (Y 27 rfl) rfl ?_
   refine X25.ldc2J hx hown (mvT hZ (oq hw 259 rfl)) rfl (Y 28 rfl) ?_
   refine st26 _ ?_
   show oS p e below T26 (mkF m 55 #[rv a0, iv ((own_n (pp + (Dg - 18)))), .val (.long y), .second] [(.int (own_n ((pp + (Dg - 18)) + if y / (100000000000000000 : Int64) = 0 ∧ ¬ (100000000000000000 : Int64) = 1 then 0 else 1)))]) _
   rw [own_Dres (j := 17) (P0 := pp) (P := (pp + (Dg - 18))) (Dg := Dg) (by decide) hDg (by omega)]
   show oS p e below T26 (mkF m 55 #[rv a0, iv ((own_n (pp + (Dg - 18)))), .val (.long y), .second] [(.int (own_n (pp + (Dg - 17))))]) _
   refine XS.istoreN X26.here hx rfl (Y 30 rfl) rfl (l' := #[rv a0, iv ((own_n (pp + (Dg - 17)))), .val (.long y), .second]) rfl ?_
   show oS p e below T26 (mkF m 56 #[rv a0, iv ((own_n (pp + (Dg - 17)))), .val (.long y), .second] []) _
   refine XS.aloadN X26.here hx rfl (Y 31 rfl) rfl rfl ?_
   refine XS.iloadN X26.here hx rfl (Y 32 rfl) rfl ?_
   refine XT.lloadN X26.here hx rfl (Y 33 rfl) rfl ?_
   refine X26.ldc2J hx hown (mvT hZ (oq hw 260 rfl)) rfl (Y 34 rfl) ?_
   refine st27 _ ?_
   show oS p e below T27 (mkF m 65 #[rv a0, iv ((own_n (pp + (Dg - 17)))), .val (.long y), .second] [(.int (own_n ((pp + (Dg - 17)) + if y / (10000000000000000 : Int64) = 0 ∧ ¬ (10000000000000000 : Int64) = 1 then 0 else 1)))]) _
   rw [own_Dres (j := 16) (P0 := pp) (P := (pp + (Dg - 17))) (Dg := Dg) (by decide) hDg (by omega)]
   show oS p e below T27 (mkF m 65 #[rv a0, iv ((own_n (pp + (Dg - 17)))), .val (.long y), .second] [(.int (own_n (pp + (Dg - 16))))]) _
   refine XS.istoreN X27.here hx rfl (Y 36 rfl) rfl (l' := #[rv a0, iv ((own_n (pp + (Dg - 16)))), .val (.long y), .second]) rfl ?_
   refine XS.aloadN X27.here hx rfl (Y 37 rfl) rfl rfl ?_
   refine XS.iloadN X27.here hx rfl (Y 38 rfl) rfl ?_
   refine XT.lloadN X27.here hx rfl (Y 39 rfl) rfl ?_
   show oS p e below T27 (mkF m 69 #[rv a0, iv ((own_n (pp + (Dg - 16)))), .val (.long y), .second] [(.long y), (.int (own_n (pp + (Dg - 16)))), (.ref a0)]) _
   refine X27.ldc2J hx hown (mvT hZ (oq hw 261 rfl)) rfl (Y 40 rfl) ?_
   refine st28 _ ?_
   show oS p e below T28 (mkF m 75 #[rv a0, iv ((own_n (pp + (Dg - 16)))), .val (.long y), .second] [(.int (own_n ((pp + (Dg - 16)) + if y / (1000000000000000 : Int64) = 0 ∧ ¬ (1000000000000000 : Int64) = 1 then 0 else 1)))]) _
   rw [own_Dres (j := 15) (P0 := pp) (P := (pp + (Dg - 16))) (Dg := Dg) (by decide) hDg (by omega)]
   show oS p e below T28 (mkF m 75 #[rv a0, iv ((own_n (pp + (Dg - 16)))), .val (.long y), .second] [(.int (own_n (pp + (Dg - 15))))]) _
   refine XS.istoreN X28.here hx rfl (Y 42 rfl) rfl (l' := #[rv a0, iv ((own_n (pp + (Dg - 15)))), .val (.long y), .second]) rfl ?_
   refine XS.aloadN X28.here hx rfl (Y 43 rfl) rfl rfl ?_
   refine XS.iloadN X28.here hx rfl (Y 44 rfl) rfl ?_
   refine XT.lloadN X28.here hx rfl (Y 45 rfl) rfl ?_
   refine X28.ldc2J hx hown (mvT hZ (oq hw 262 rfl)) rfl (Y 46 rfl) ?_
   refine st29 _ ?_
   show oS p e below T29 (mkF m 85 #[rv a0, iv ((own_n (pp + (Dg - 15)))), .val (.long y), .second] [(.int (own_n ((pp + (Dg - 15)) + if y / (100000000000000 : Int64) = 0 ∧ ¬ (100000000000000 : Int64) = 1 then 0 else 1)))]) _
   rw [own_Dres (j := 14) (P0 := pp) (P := (pp + (Dg - 15))) (Dg := Dg) (by decide) hDg (by omega)]
   show oS p e below T29 (mkF m 85 #[rv a0, iv ((own_n (pp + (Dg - 15)))), .val (.long y), .second] [(.int (own_n (pp + (Dg - 14))))]) _
   refine XS.istoreN X29.here hx rfl (Y 48 rfl) rfl (l' := #[rv a0, iv ((own_n (pp + (Dg - 14)))), .val (.long y), .second]) rfl ?_
   refine XS.aloadN X29.here hx rfl (Y 49 rfl) rfl rfl ?_
   refine XS.iloadN X29.here hx rfl (Y 50 rfl) rfl ?_
   refine XT.lloadN X29.here hx rfl (Y 51 rfl) rfl ?_
   refine X29.ldc2J hx hown (mvT hZ (oq hw 263 rfl)) rfl (Y 52 rfl) ?_
   refine st30 _ ?_
   show oS p e below T30 (mkF m 95 #[rv a0, iv ((own_n (pp + (Dg - 14)))), .val (.long y), .second] [(.int (own_n ((pp + (Dg - 14)) + if y / (10000000000000 : Int64) = 0 ∧ ¬ (10000000000000 : Int64) = 1 then 0 else 1)))]) _
   rw [own_Dres (j := 13) (P0 := pp) (P := (pp + (Dg - 14))) (Dg := Dg) (by decide) hDg (by omega)]
   show oS p e below T30 (mkF m 95 #[rv a0, iv ((own_n (pp + (Dg - 14)))), .val (.long y), .second] [(.int (own_n (pp + (Dg - 13))))]) _
   refine XS.istoreN X30.here hx rfl (Y 54 rfl) rfl (l' := #[rv a0, iv ((own_n (pp + (Dg - 13)))), .val (.long y), .second]) rfl ?_
   refine XS.aloadN X30.here hx rfl (Y 55 rfl) rfl rfl ?_
   refine XS.iloadN X30.here hx rfl (Y 56 rfl) rfl ?_
   show oS p e below T30 (mkF m 98 #[rv a0, iv ((own_n (pp + (Dg - 13)))), .val (.long y), .second] [(.int (own_n (pp + (Dg - 13)))), (.ref a0)]) _
   refine XT.lloadN X30.here hx rfl (Y 57 rfl) rfl ?_
   refine X30.ldc2J hx hown (mvT hZ (oq hw 264 rfl)) rfl (Y 58 rfl) ?_
   refine st31 _ ?_
   show oS p e below T31 (mkF m 105 #[rv a0, iv ((own_n (pp + (Dg - 13)))), .val (.long y), .second] [(.int (own_n ((pp + (Dg - 13)) + if y / (1000000000000 : Int64) = 0 ∧ ¬ (1000000000000 : Int64) = 1 then 0 else 1)))]) _
   rw [own_Dres (j := 12) (P0 := pp) (P := (pp + (Dg - 13))) (Dg := Dg) (by decide) hDg (by omega)]
   show oS p e below T31 (mkF m 105 #[rv a0, iv ((own_n (pp + (Dg - 13)))), .val (.long y), .second] [(.int (own_n (pp + (Dg - 12))))]) _
   refine XS.istoreN X31.here hx rfl (Y 60 rfl) rfl (l' := #[rv a0, iv ((own_n (pp + (Dg - 12)))), .val (.long y), .second]) rfl ?_
   refine XS.aloadN X31.here hx rfl (Y 61 rfl) rfl rfl ?_
   refine XS.iloadN X31.here hx rfl (Y 62 rfl) rfl ?_
   refine XT.lloadN X31.here hx rfl (Y 63 rfl) rfl ?_
   refine X31.ldc2J hx hown (mvT hZ (oq hw 265 rfl)) rfl (Y 64 rfl) ?_
   refine st32 _ ?_
   show oS p e below T32 (mkF m 115 #[rv a0, iv ((own_n (pp + (Dg - 12)))), .val (.long y), .second] [(.int (own_n ((pp + (Dg - 12)) + if y / (100000000000 : Int64) = 0 ∧ ¬ (100000000000 : Int64) = 1 then 0 else 1)))]) _
   rw [own_Dres (j := 11) (P0 := pp) (P := (pp + (Dg - 12))) (Dg := Dg) (by decide) hDg (by omega)]
   show oS p e below T32 (mkF m 115 #[rv a0, iv ((own_n (pp + (Dg - 12)))), .val (.long y), .second] [(.int (own_n (pp + (Dg - 11))))]) _
   refine XS.istoreN X32.here hx rfl (Y 66 rfl) rfl (l' := #[rv a0, iv ((own_n (pp + (Dg - 11)))), .val (.long y), .second]) rfl ?_
   refine XS.aloadN X32.here hx rfl (Y 67 rfl) rfl rfl ?_
   refine XS.iloadN X32.here hx rfl (Y 68 rfl) rfl ?_
   refine XT.lloadN X32.here hx rfl (Y 69 rfl) rfl ?_
   refine X32.ldc2J hx hown (mvT hZ (oq hw 266 rfl)) rfl (Y 70 rfl) ?_
   refine st33 _ ?_
   show oS p e below T33 (mkF m 125 #[rv a0, iv ((own_n (pp + (Dg - 11)))), .val (.long y), .second] [(.int (own_n ((pp + (Dg - 11)) + if y / (10000000000 : Int64) = 0 ∧ ¬ (10000000000 : Int64) = 1 then 0 else 1)))]) _
   rw [own_Dres (j := 10) (P0 := pp) (P := (pp + (Dg - 11))) (Dg := Dg) (by decide) hDg (by omega)]
   show oS p e below T33 (mkF m 125 #[rv a0, iv ((own_n (pp + (Dg - 11)))), .val (.long y), .second] [(.int (own_n (pp + (Dg - 10))))]) _
   refine XS.istoreN X33.here hx rfl (Y 72 rfl) rfl (l' := #[rv a0, iv ((own_n (pp + (Dg - 10)))), .val (.long y), .second]) rfl ?_
   refine XS.aloadN X33.here hx rfl (Y 73 rfl) rfl rfl ?_
   show oS p e below T33 (mkF m 127 #[rv a0, iv ((own_n (pp + (Dg - 10)))), .val (.long y), .second] [(.ref a0)]) _
   refine XS.iloadN X33.here hx rfl (Y 74 rfl) rfl ?_
   refine XT.lloadN X33.here hx rfl (Y 75 rfl) rfl ?_
   refine X33.ldc2J hx hown (mvT hZ (oq hw 267 rfl)) rfl (Y 76 rfl) ?_
   refine st34 _ ?_
   show oS p e below T34 (mkF m 135 #[rv a0, iv ((own_n (pp + (Dg - 10)))), .val (.long y), .second] [(.int (own_n ((pp + (Dg - 10)) + if y / (1000000000 : Int64) = 0 ∧ ¬ (1000000000 : Int64) = 1 then 0 else 1)))]) _
   rw [own_Dres (j := 9) (P0 := pp) (P := (pp + (Dg - 10))) (Dg := Dg) (by decide) hDg (by omega)]
   show oS p e below T34 (mkF m 135 #[rv a0, iv ((own_n (pp + (Dg - 10)))), .val (.long y), .second] [(.int (own_n (pp + (Dg - 9))))]) _
   refine XS.istoreN X34.here hx rfl (Y 78 rfl) rfl (l' := #[rv a0, iv ((own_n (pp + (Dg - 9)))), .val (.long y), .second]) rfl ?_
   refine XS.aloadN X34.here hx rfl (Y 79 rfl) rfl rfl ?_
   refine XS.iloadN X34.here hx rfl (Y 80 rfl) rfl ?_
   refine XT.lloadN X34.here hx rfl (Y 81 rfl) rfl ?_
   refine X34.ldc2J hx hown (mvT hZ (oq hw 268 rfl)) rfl (Y 82 rfl) ?_
   show oS p e below T34 (mkF m 142 #[rv a0, iv ((own_n (pp + (Dg - 9)))), .val (.long y), .second] [(.long 100000000), (.long y), (.int (own_n (pp + (Dg - 9)))), (.ref a0)]) _
   refine st35 _ ?_
   show oS p e below T35 (mkF m 145 #[rv a0, iv ((own_n (pp + (Dg - 9)))), .val (.long y), .second] [(.int (own_n ((pp + (Dg - 9)) + if y / (100000000 : Int64) = 0 ∧ ¬ (100000000 : Int64) = 1 then 0 else 1)))]) _
   rw [own_Dres (j := 8) (P0 := pp) (P := (pp + (Dg - 9))) (Dg := Dg) (by decide) hDg (by omega)]
   show oS p e below T35 (mkF m 145 #[rv a0, iv ((own_n (pp + (Dg - 9)))), .val (.long y), .second] [(.int (own_n (pp + (Dg - 8))))]) _
   refine XS.istoreN X35.here hx rfl (Y 84 rfl) rfl (l' := #[rv a0, iv ((own_n (pp + (Dg - 8)))), .val (.long y), .second]) rfl ?_
   refine XS.aloadN X35.here hx rfl (Y 85 rfl) rfl rfl ?_
   refine XS.iloadN X35.here hx rfl (Y 86 rfl) rfl ?_
   refine XT.lloadN X35.here hx rfl (Y 87 rfl) rfl ?_
   refine X35.ldc2J hx hown (mvT hZ (oq hw 269 rfl)) rfl (Y 88 rfl) ?_
   refine st36 _ ?_
   show oS p e below T36 (mkF m 155 #[rv a0, iv ((own_n (pp + (Dg - 8)))), .val (.long y), .second] [(.int (own_n ((pp + (Dg - 8)) + if y / (10000000 : Int64) = 0 ∧ ¬ (10000000 : Int64) = 1 then 0 else 1)))]) _
   rw [own_Dres (j := 7) (P0 := pp) (P := (pp + (Dg - 8))) (Dg := Dg) (by decide) hDg (by omega)]
   show oS p e below T36 (mkF m 155 #[rv a0, iv ((own_n (pp + (Dg - 8)))), .val (.long y), .second] [(.int (own_n (pp + (Dg - 7))))]) _
   refine XS.istoreN X36.here hx rfl (Y 90 rfl) rfl (l' := #[rv a0, iv ((own_n (pp + (Dg - 7)))), .val (.long y), .second]) rfl ?_
   show oS p e below T36 (mkF m 156 #[rv a0, iv ((own_n (pp + (Dg - 7)))), .val (.long y), .second] []) _
   refine XS.aloadN X36.here hx rfl (Y 91 rfl) rfl rfl ?_
   refine XS.iloadN X36.here hx rfl (Y 92 rfl) rfl ?_
   refine XT.lloadN X36.here hx rfl (Y 93 rfl) rfl ?_
   refine X36.ldc2J hx hown (mvT hZ (oq hw 270 rfl)) rfl (Y 94 rfl) ?_
   refine st37 _ ?_
   show oS p e below T37 (mkF m 165 #[rv a0, iv ((own_n (pp + (Dg - 7)))), .val (.long y), .second] [(.int (own_n ((pp + (Dg - 7)) + if y / (1000000 : Int64) = 0 ∧ ¬ (1000000 : Int64) = 1 then 0 else 1)))]) _
   rw [own_Dres (j := 6) (P0 := pp) (P := (pp + (Dg - 7))) (Dg := Dg) (by decide) hDg (by omega)]
   show oS p e below T37 (mkF m 165 #[rv a0, iv ((own_n (pp + (Dg - 7)))), .val (.long y), .second] [(.int (own_n (pp + (Dg - 6))))]) _
   refine XS.istoreN X37.here hx rfl (Y 96 rfl) rfl (l' := #[rv a0, iv ((own_n (pp + (Dg - 6)))), .val (.long y), .second]) rfl ?_
   refine XS.aloadN X37.here hx rfl (Y 97 rfl) rfl rfl ?_
   refine XS.iloadN X37.here hx rfl (Y 98 rfl) rfl ?_
   refine XT.lloadN X37.here hx rfl (Y 99 rfl) rfl ?_
   show oS p e below T37 (mkF m 169 #[rv a0, iv ((own_n (pp + (Dg - 6)))), .val (.long y), .second] [(.long y), (.int (own_n (pp + (Dg - 6)))), (.ref a0)]) _
   refine X37.ldc2J hx hown (mvT hZ (oq hw 271 rfl)) rfl (Y 100 rfl) ?_
   refine st38 _ ?_
   show oS p e below T38 (mkF m 175 #[rv a0, iv ((own_n (pp + (Dg - 6)))), .val (.long y), .second] [(.int (own_n ((pp + (Dg - 6)) + if y / (100000 : Int64) = 0 ∧ ¬ (100000 : Int64) = 1 then 0 else 1)))]) _
   rw [own_Dres (j := 5) (P0 := pp) (P := (pp + (Dg - 6))) (Dg := Dg) (by decide) hDg (by omega)]
   show oS p e below T38 (mkF m 175 #[rv a0, iv ((own_n (pp + (Dg - 6)))), .val (.long y), .second] [(.int (own_n (pp + (Dg - 5))))]) _
   refine XS.istoreN X38.here hx rfl (Y 102 rfl) rfl (l' := #[rv a0, iv ((own_n (pp + (Dg - 5)))), .val (.long y), .second]) rfl ?_
   refine XS.aloadN X38.here hx rfl (Y 103 rfl) rfl rfl ?_
   refine XS.iloadN X38.here hx rfl (Y 104 rfl) rfl ?_
   refine XT.lloadN X38.here hx rfl (Y 105 rfl) rfl ?_
   refine X38.ldc2J hx hown (mvT hZ (oq hw 272 rfl)) rfl (Y 106 rfl) ?_
   refine st39 _ ?_
   show oS p e below T39 (mkF m 185 #[rv a0, iv ((own_n (pp + (Dg - 5)))), .val (.long y), .second] [(.int (own_n ((pp + (Dg - 5)) + if y / (10000 : Int64) = 0 ∧ ¬ (10000 : Int64) = 1 then 0 else 1)))]) _
   rw [own_Dres (j := 4) (P0 := pp) (P := (pp + (Dg - 5))) (Dg := Dg) (by decide) hDg (by omega)]
   show oS p e below T39 (mkF m 185 #[rv a0, iv ((own_n (pp + (Dg - 5)))), .val (.long y), .second] [(.int (own_n (pp + (Dg - 4))))]) _
   refine XS.istoreN X39.here hx rfl (Y 108 rfl) rfl (l' := #[rv a0, iv ((own_n (pp + (Dg - 4)))), .val (.long y), .second]) rfl ?_
   refine XS.aloadN X39.here hx rfl (Y 109 rfl) rfl rfl ?_
   refine XS.iloadN X39.here hx rfl (Y 110 rfl) rfl ?_
   refine XT.lloadN X39.here hx rfl (Y 111 rfl) rfl ?_
   refine X39.ldc2J hx hown (mvT hZ (oq hw 273 rfl)) rfl (Y 112 rfl) ?_
   refine st40 _ ?_
   show oS p e below T40 (mkF m 195 #[rv a0, iv ((own_n (pp + (Dg - 4)))), .val (.long y), .second] [(.int (own_n ((pp + (Dg - 4)) + if y / (1000 : Int64) = 0 ∧ ¬ (1000 : Int64) = 1 then 0 else 1)))]) _
   rw [own_Dres (j := 3) (P0 := pp) (P := (pp + (Dg - 4))) (Dg := Dg) (by decide) hDg (by omega)]
   show oS p e below T40 (mkF m 195 #[rv a0, iv ((own_n (pp + (Dg - 4)))), .val (.long y), .second] [(.int (own_n (pp + (Dg - 3))))]) _
   refine XS.istoreN X40.here hx rfl (Y 114 rfl) rfl (l' := #[rv a0, iv ((own_n (pp + (Dg - 3)))), .val (.long y), .second]) rfl ?_
   refine XS.aloadN X40.here hx rfl (Y 115 rfl) rfl rfl ?_
   refine XS.iloadN X40.here hx rfl (Y 116 rfl) rfl ?_
   show oS p e below T40 (mkF m 198 #[rv a0, iv ((own_n (pp + (Dg - 3)))), .val (.long y), .second] [(.int (own_n (pp + (Dg - 3)))), (.ref a0)]) _
   refine XT.lloadN X40.here hx rfl (Y 117 rfl) rfl ?_
   refine X40.ldc2J hx hown (mvT hZ (oq hw 274 rfl)) rfl (Y 118 rfl) ?_
   refine st41 _ ?_
   show oS p e below T41 (mkF m 205 #[rv a0, iv ((own_n (pp + (Dg - 3)))), .val (.long y), .second] [(.int (own_n ((pp + (Dg - 3)) + if y / (100 : Int64) = 0 ∧ ¬ (100 : Int64) = 1 then 0 else 1)))]) _
   rw [own_Dres (j := 2) (P0 := pp) (P := (pp + (Dg - 3))) (Dg := Dg) (by decide) hDg (by omega)]
   show oS p e below T41 (mkF m 205 #[rv a0, iv ((own_n (pp + (Dg - 3)))), .val (.long y), .second] [(.int (own_n (pp + (Dg - 2))))]) _
   refine XS.istoreN X41.here hx rfl (Y 120 rfl) rfl (l' := #[rv a0, iv ((own_n (pp + (Dg - 2)))), .val (.long y), .second]) rfl ?_
   refine XS.aloadN X41.here hx rfl (Y 121 rfl) rfl rfl ?_
   refine XS.iloadN X41.here hx rfl (Y 122 rfl) rfl ?_
   refine XT.lloadN X41.here hx rfl (Y 123 rfl) rfl ?_
   refine X41.ldc2J hx hown (mvT hZ (oq hw 275 rfl)) rfl (Y 124 rfl) ?_
   refine st42 _ ?_
   show oS p e below T42 (mkF m 215 #[rv a0, iv ((own_n (pp + (Dg - 2)))), .val (.long y), .second] [(.int (own_n ((pp + (Dg - 2)) + if y / (10 : Int64) = 0 ∧ ¬ (10 : Int64) = 1 then 0 else 1)))]) _
   rw [own_Dres (j := 1) (P0 := pp) (P := (pp + (Dg - 2))) (Dg := Dg) (by decide) hDg (by omega)]
   show oS p e below T42 (mkF m 215 #[rv a0, iv ((own_n (pp + (Dg - 2)))), .val (.long y), .second] [(.int (own_n (pp + (Dg - 1))))]) _
   refine XS.istoreN X42.here hx rfl (Y 126 rfl) rfl (l' := #[rv a0, iv ((own_n (pp + (Dg - 1)))), .val (.long y), .second]) rfl ?_
   refine XS.aloadN X42.here hx rfl (Y 127 rfl) rfl rfl ?_
   refine XS.iloadN X42.here hx rfl (Y 128 rfl) rfl ?_
   refine XT.lloadN X42.here hx rfl (Y 129 rfl) rfl ?_
   refine XT.lconstV X42.here hx rfl (1 : Int64) (Y 130 rfl) (by decide) ?_
   refine st43 _ ?_
   show oS p e below T43 (mkF m 223 #[rv a0, iv ((own_n (pp + (Dg - 1)))), .val (.long y), .second] [(.int (own_n ((pp + (Dg - 1)) + if y / (1 : Int64) = 0 ∧ ¬ (1 : Int64) = 1 then 0 else 1)))]) _
   rw [own_Dres (j := 0) (P0 := pp) (P := (pp + (Dg - 1))) (Dg := Dg) (by decide) hDg (by omega)]
   show oS p e below T43 (mkF m 223 #[rv a0, iv ((own_n (pp + (Dg - 1)))), .val (.long y), .second] [(.int (own_n (pp + (Dg - 0))))]) _
   refine XS.istoreN X43.here hx rfl (Y 132 rfl) rfl (l' := #[rv a0, iv ((own_n (pp + (Dg - 0)))), .val (.long y), .second]) rfl ?_
   refine XS.iloadN X43.here hx rfl (Y 133 rfl) rfl ?_
   show oS p e below T43 (mkF m 225 #[rv a0, iv ((own_n (pp + (Dg - 0)))), .val (.long y), .second] [(.int (own_n (pp + (Dg - 0))))]) _
   exact kz)
  obtain ⟨fs, hr, hrun, hended, hW, hsame⟩ := X43.leave (v := some (.int (own_n (pp + (Dg - 0))))) (fun h => by rw [Bd.returns] at h; cases h)
  refine ⟨_, _, pre0 _ (S44 _ ?_), hrun, hended, _, _, rfl, ?_, ⟨_, rfl⟩, hW, hsame.mono (by decide) (by decide)⟩
  · exact retI X43 hx Bd.returns (Y 134 rfl) hr
  · show Qrmnum Z a0 b0 n g pp y fm wC h0 n0 _ T43.heap _
    rw [e43]
    exact ⟨by rw [show (pp + (Dg - 0)) = pp + own_sz y.toInt by omega], N43, rfl⟩
theorem D_rmCE : oL jdk_43_method_3_code [(0, .iload_n 0, 1), (1, .sipush 255, 3), (4, .if_icmp .gt 7, 3), (7, .iconst 1, 1), (8, .goto 4, 3), (12, .ireturn, 1)] := by decide +kernel
def QrmCE (Z : State) (y : Int32) (h0 : Heap) (n0 : Nat) (v : Option Value) (h : Heap) (L : List Loc) : Prop := v = some (.int (1 : Int32)) ∧ Fr n0 L ∧ h = h0
theorem rmCE (l : Launch) (Z : State) (av0 : Array Value) (hw : ∀ d ∈ tables_1, d.before av0 Z = true) (ws : List Jvm.Cond) (y : Int32) (h0 : Heap) (n0 : Nat) (Z0 : n0 ≤ h0.size) (hy : ¬ (255 : Int32) < y) :
   own_Met l mN43 jdk_43_method_3_code 1 (some .boolean) ws ({ frames := 0, cells := 0, slots := 0, locals := 0 } : Room) #[(.int y)] Z h0 (QrmCE Z y h0 n0) := by
 refine MetFree.of_bodySF (plainFor_of_name pn_StringLatin1) hisR ?_
 intro p e s m args below meth c s₁ Bd hml0 hP hK
 obtain ⟨rfl, hZ, hh⟩ := hP
 have hml : c.maxLocals = 1 := hml0
 obtain ⟨hx, hby, hown, hnm, X0, e0⟩ := own_start Bd hml0 hh
 have N0 := Fr.nil n0
 have Y := @oY _ _ _ hby D_rmCE
 obtain ⟨P0, in0, pre0⟩ : ∃ P : State → Prop, (∀ tz, oS p e below s₁ (mkF m 0 #[iv y] []) tz → P tz) ∧ ∀ tz, P tz → Steps p.tables e below (s₁.setTop (entryFrame m #[(.int y)] 1)) tz := ⟨_, fun _ kz => kz, fun tz kz => castTop (by first | (simp [entryFrame, mkF, argsToLocals, Value.category]; done) | rfl) kz⟩
 have S1 : ∀ tz, oS p e below s₁ (mkF m 12 #[iv y] [(.int 1)]) tz → P0 tz := fun tz kz => in0 tz (by
  refine XS.iloadN X0.here hx rfl (Y 0 rfl) rfl ?_
  refine XT.sipushV X0.here hx rfl (255 : Int32) (Y 1 rfl) (by decide) ?_
  refine XS.icmpNo X0.here hx rfl (Y 2 rfl) rfl (XT.ii_gt_f hy) ?_
  refine XT.iconstV X0.here hx rfl (1 : Int32) (Y 3 rfl) (by decide) ?_
  refine XS.goto X0.here hx rfl (pc0 := 8) (pc' := 12) rfl (Y 4 rfl) (by decide) (by decide) ?_
  exact kz)
 obtain ⟨fs, hr, hrun, hended, hW, hsame⟩ := X0.leave (v := some (.int 1)) (fun h => by rw [Bd.returns] at h; cases h)
 refine ⟨_, _, pre0 _ (S1 _ ?_), hrun, hended, _, _, rfl, ?_, ⟨_, rfl⟩, hW, hsame.mono (by decide) (by decide)⟩
 · exact retN X0 hx (t := .boolean) Bd.returns (by simp) (Y 5 rfl) hr
 · show QrmCE Z y h0 n0 _ s₁.heap _
   rw [e0]
   exact ⟨rfl, N0, rfl⟩
theorem D_rmTB : oL jdk_43_method_46_code [(0, .iconst 1, 1), (1, .newarray .byte, 2), (3, .dup, 1), (4, .iconst 0, 1), (5, .iload_n 0, 1), (6, .i2b, 1), (7, .bastore, 1), (8, .areturn, 1)] := by decide +kernel
def QrmTB (Z : State) (y : Int32) (h0 : Heap) (n0 : Nat) (v : Option Value) (h : Heap) (L : List Loc) : Prop := ∃ b : Addr, v = some (.ref b) ∧ Fr n0 L ∧ h0.size ≤ b ∧ Keep h0 h [] ∧ own_Ab Z h b 1 (own_up (fun _ => 0) 0 (nar .byte (y).toInt8.toInt32))
theorem rmTB (l : Launch) (Z : State) (av0 : Array Value) (hw : ∀ d ∈ tables_1, d.before av0 Z = true) (ws : List Jvm.Cond) (y : Int32) (h0 : Heap) (n0 : Nat) (Z0 : n0 ≤ h0.size)  :
   own_Met l mN44 jdk_43_method_46_code 1 (some (.array .byte)) ws ({ frames := 0, cells := 1, slots := 1, locals := 0 } : Room) #[(.int y)] Z h0 (QrmTB Z y h0 n0) := by
 refine MetFree.of_bodySF (plainFor_of_name pn_StringLatin1) hisR ?_
 intro p e s m args below meth c s₁ Bd hml0 hP hK
 obtain ⟨rfl, hZ, hh⟩ := hP
 have hml : c.maxLocals = 1 := hml0
 obtain ⟨hx, hby, hown, hnm, X0, e0⟩ := own_start Bd hml0 hh
 have N0 := Fr.nil n0
 have Y := @oY _ _ _ hby D_rmTB
 obtain ⟨P0, in0, pre0⟩ : ∃ P : State → Prop, (∀ tz, oS p e below s₁ (mkF m 0 #[iv y] []) tz → P tz) ∧ ∀ tz, P tz → Steps p.tables e below (s₁.setTop (entryFrame m #[(.int y)] 1)) tz := ⟨_, fun _ kz => kz, fun tz kz => castTop (by first | (simp [entryFrame, mkF, argsToLocals, Value.category]; done) | rfl) kz⟩
 obtain ⟨T1, h1, k1, X1, e1, E1, A1, st1⟩ := newP X0 hx hZ (oq hw 3 rfl) e0 (g := (mkF m 1 #[iv y] [(.int 1)])) rfl (Y 1 rfl) rfl (by decide) (cap := 1) (by decide) (by decide) (by decide) (by decide)
 obtain ⟨b1, g1⟩ : ∃ z, z = h0.size := ⟨_, rfl⟩
 rw [← g1] at A1 st1
 have ge_b1 : n0 ≤ b1 := Nat.le_trans Z0 (Nat.le_of_eq g1.symm)
 have sz_b1 : h0.size ≤ b1 := Nat.le_of_eq g1.symm
 have Z1 : n0 ≤ h1.size := Nat.le_trans Z0 E1.1
 have K1 : Keep h0 h1 [] := (Keep.refl h0 []).ext E1
 have V1 : own_Ab Z h1 b1 1 (fun _ => 0) := own_newB 1 (by omega) A1
 obtain ⟨kc2, cl2, Ar2, qk2, Sz2, Ng2, Hs2, Gs2⟩ := id V1
 have hin2 : ¬ ((0 : Int32) < 0 ∨ cl2.slots.size ≤ ((0 : Int32)).toNatClampNeg) := own_inb (n := 1) (k := 0) Sz2 (by decide) (by decide)
 obtain ⟨T3, h3, X3, e3, W3, st3⟩ := stB X1 hx hZ e1 Ar2 (j := (0 : Int32)) hin2 (g := (mkF m 7 #[iv y] [(.int (y).toInt8.toInt32), (.int 0), (.ref b1), (.ref b1)])) rfl rfl (Y 6 rfl)
 have N3 := Fr.snoc X3 N0 ge_b1
 have Z3 : n0 ≤ h3.size := Nat.le_trans Z1 (Nat.le_of_eq W3.size.symm)
 have K3 : Keep h0 h3 [] := K1.wr W3 (Or.inr sz_b1)
 have V3 : own_Ab Z h3 b1 1 (own_up (fun _ => 0) 0 (nar .byte (y).toInt8.toInt32)) := own_arsetB (g := (fun _ => 0)) (k := 0) Ar2 qk2 Sz2 Ng2 Hs2 Gs2 W3 (fits_nar_byte _) (by decide) (by decide)
 have S4 : ∀ tz, oS p e below T3 (mkF m 8 #[iv y] [(.ref b1)]) tz → P0 tz := fun tz kz => in0 tz (by
  refine XT.iconstV X0.here hx rfl (1 : Int32) (Y 0 rfl) (by decide) ?_
  refine st1 _ ?_
  refine XS.dup X1.here hx rfl (Y 2 rfl) rfl rfl ?_
  refine XT.iconstV X1.here hx rfl (0 : Int32) (Y 3 rfl) (by decide) ?_
  refine XS.iloadN X1.here hx rfl (Y 4 rfl) rfl ?_
  refine XT.i2b X1.here hx rfl (Y 5 rfl) rfl ?_
  refine st3 _ ?_
  exact kz)
 obtain ⟨fs, hr, hrun, hended, hW, hsame⟩ := X3.leave (v := some (.ref b1)) (fun h => by rw [Bd.returns] at h; cases h)
 refine ⟨_, _, pre0 _ (S4 _ ?_), hrun, hended, _, _, rfl, ?_, ⟨_, rfl⟩, hW, hsame.mono (by decide) (by decide)⟩
 · jvm_step X3.here [X3.here.top, hx, (Y 7 rfl), X3.method', Bd.returns, Value.isRef, FieldType.isReference]
   first | (intro acts; rw [hr _ acts rfl rfl rfl]) | rw [hr _ _ rfl rfl rfl]
   exact Steps.refl _
 · show QrmTB Z y h0 n0 _ T3.heap _
   rw [e3]
   exact ⟨_, rfl, N3, sz_b1, K3, V3⟩
theorem D_rmS3 : oL jdk_42_method_151_code [(0, .aload_n 0, 1), (1, .invokespecial 1, 3), (4, .aload_n 0, 1), (5, .aload_n 1, 1), (6, .putfield 9, 3), (9, .aload_n 0, 1), (10, .iload_n 2, 1), (11, .putfield 15, 3), (14, .return_, 1)] := by decide +kernel
def QrmS3 (Z : State) (sa : Addr) (b0 : Addr) (n : Nat) (g : Nat → Int32) (h0 : Heap) (n0 : Nat) (v : Option Value) (h : Heap) (L : List Loc) : Prop := v = none ∧ Fr n0 L ∧ Keep h0 h [sa] ∧ own_Str Z h sa b0 n g
theorem rmS3 (l : Launch) (Z : State) (av0 : Array Value) (hw : ∀ d ∈ tables_1, d.before av0 Z = true) (ws : List Jvm.Cond) (sa : Addr) (b0 : Addr) (n : Nat) (g : Nat → Int32) (h0 : Heap) (n0 : Nat) (Z0 : n0 ≤ h0.size) (hE : Exa Z h0 sa "java/lang/String") (hV : Fld Z h0 sa "java/lang/String" "value" "[B" .null) (hCo : Fld Z h0 sa "java/lang/String" "coder" "B" (.int (0 : Int32))) (hgs : n0 ≤ sa) (hA : own_Ab Z h0 b0 n g) (hn2 : sa ≠ b0) :
   own_Met l mN45 jdk_42_method_151_code 3 none ws ({ frames := 1, cells := 0, slots := 0, locals := 12 } : Room) #[(.ref sa), (.ref b0), (.int 0)] Z h0 (QrmS3 Z sa b0 n g h0 n0) := by
 refine MetFree.of_bodySF (plainFor_of_name pn_String) hisR ?_
 intro p e s m args below meth c s₁ Bd hml0 hP hK
 obtain ⟨rfl, hZ, hh⟩ := hP
 have hml : c.maxLocals = 3 := hml0
 obtain ⟨hx, hby, hown, hnm, X0, e0⟩ := own_start Bd hml0 hh
 have N0 := Fr.nil n0
 have Y := @oY _ _ _ hby D_rmS3
 obtain ⟨P0, in0, pre0⟩ : ∃ P : State → Prop, (∀ tz, oS p e below s₁ (mkF m 0 #[rv sa, rv b0, iv 0] []) tz → P tz) ∧ ∀ tz, P tz → Steps p.tables e below (s₁.setTop (entryFrame m #[(.ref sa), (.ref b0), (.int 0)] 3)) tz := ⟨_, fun _ kz => kz, fun tz kz => castTop (by first | (simp [entryFrame, mkF, argsToLocals, Value.category]; done) | rfl) kz⟩
 obtain ⟨T1, X1, e1, st1⟩ := initO X0 hx hZ hown (oq hw 196 rfl) (oq hw 15 rfl) (oq hw 16 rfl) e0 (g := (mkF m 1 #[rv sa, rv b0, iv 0] [(.ref sa)])) rfl (by rw [hml]; rfl) rfl (Y 1 rfl) (by decide) (W := 0) (by show 2 * 0 + _ ≤ _; exact Nat.le_of_eq rfl) (by decide)
 obtain ⟨T2, h2, X2, e2, W2, st2⟩ := putF X1 hx hZ hown (host := "") (Or.inl (oq hw 81 rfl)) Via.refl e1 hV hE (Or.inr ⟨(oq hw 4 rfl), rfl, hnm⟩) (oq hw 2 rfl) (ty := (.array .byte)) (by decide) rfl rfl (g := (mkF m 6 #[rv sa, rv b0, iv 0] [(.ref b0), (.ref sa)])) rfl rfl (Y 4 rfl)
 have N2 := Fr.snoc X2 N0 hgs
 have Z2 : n0 ≤ h2.size := Nat.le_trans Z0 (Nat.le_of_eq W2.size.symm)
 have K2 : Keep h0 h2 [sa] := (Keep.refl h0 [sa]).wr W2 (Or.inl (List.mem_of_getElem? (i := 0) rfl))
 have Fw2 := hV.same W2
 have f3 := (hCo.other W2 (Or.inr (slot_ne (Or.inr (oq hw 5 rfl)) (Or.inr (oq hw 4 rfl)) (by decide) (t := .byte) (t' := (.array .byte)) (by decide) (by decide))))
 have f4 := (hE.wr W2)
 obtain ⟨T5, h5, X5, e5, W5, st5⟩ := putFN X2 hx hZ hown (oq hw 88 rfl) Via.refl e2 f3 f4 (Or.inr ⟨(oq hw 5 rfl), rfl, hnm⟩) (oq hw 2 rfl) (ty := .byte) (v' := (.int 0)) (by decide) rfl rfl (g := (mkF m 11 #[rv sa, rv b0, iv 0] [(.int 0), (.ref sa)])) rfl rfl (Y 7 rfl)
 have N5 := Fr.snoc X5 N2 hgs
 have Z5 : n0 ≤ h5.size := Nat.le_trans Z2 (Nat.le_of_eq W5.size.symm)
 have K5 : Keep h0 h5 [sa] := K2.wr W5 (Or.inl (List.mem_of_getElem? (i := 0) rfl))
 have Fw5 := f3.same W5
 have S6 : ∀ tz, oS p e below T5 (mkF m 14 #[rv sa, rv b0, iv 0] []) tz → P0 tz := fun tz kz => in0 tz (by
  refine XS.aloadN X0.here hx rfl (Y 0 rfl) rfl rfl ?_
  refine st1 _ ?_
  refine XS.aloadN X1.here hx rfl (Y 2 rfl) rfl rfl ?_
  refine XS.aloadN X1.here hx rfl (Y 3 rfl) rfl rfl ?_
  refine st2 _ ?_
  refine XS.aloadN X2.here hx rfl (Y 5 rfl) rfl rfl ?_
  refine XS.iloadN X2.here hx rfl (Y 6 rfl) rfl ?_
  refine st5 _ ?_
  exact kz)
 obtain ⟨fs, hr, hrun, hended, hW, hsame⟩ := X5.leave (v := none) (fun _ => rfl)
 refine ⟨_, _, pre0 _ (S6 _ ?_), hrun, hended, _, _, rfl, ?_, ⟨_, rfl⟩, hW, hsame.mono (by decide) (by decide)⟩
 · exact X5.returnOut hx Bd.returns (Y 8 rfl) hr
 have f7 := (f4.wr W5)
 have f8 := (Fw2.other W5 (Or.inr (slot_ne (Or.inr (oq hw 4 rfl)) (Or.inr (oq hw 5 rfl)) (by decide) (t := (.array .byte)) (t' := .byte) (by decide) (by decide))))
 have f9 := ((hA.other W2 (Ne.symm hn2)).other W5 (Ne.symm hn2))
 · show QrmS3 Z sa b0 n g h0 n0 _ T5.heap _
   rw [e5]
   exact ⟨rfl, N5, K5, (own_Str.mk f7 Fw5 f8 f9)⟩
theorem D_rmVO : oL jdk_42_method_139_code [(0, .getstatic 38, 3), (3, .ifCond .eq 23, 3), (6, .iload_n 0, 1), (7, .invokestatic 1015, 3), (10, .ifCond .eq 16, 3), (13, .new 10, 3), (16, .dup, 1), (17, .iload_n 0, 1), (18, .invokestatic 1018, 3), (21, .iconst 0, 1), (22, .invokespecial 209, 3), (25, .areturn, 1)] := by decide +kernel
theorem pd__C_Z : parseMethodDescriptor "(C)Z" = some ⟨[.char], some .boolean⟩ := by decide +kernel
theorem pd__C_A_B : parseMethodDescriptor "(C)[B" = some ⟨[.char], some (.array .byte)⟩ := by decide +kernel
theorem pd__A_BB_V : parseMethodDescriptor "([BB)V" = some ⟨[(.array .byte), .byte], none⟩ := by decide +kernel
def QrmVO (Z : State) (y : Int32) (wC : Int32) (h0 : Heap) (n0 : Nat) (v : Option Value) (h : Heap) (L : List Loc) : Prop := ∃ (a b : Addr) (g : Nat → Int32), v = some (.ref a) ∧ Fr n0 L ∧ Keep h0 h [] ∧ own_Str Z h a b 1 g ∧ h0.size ≤ a ∧ h0.size ≤ b
theorem rmVO (l : Launch) (Z : State) (av0 : Array Value) (hw : ∀ d ∈ tables_1, d.before av0 Z = true) (ws : List Jvm.Cond) (y : Int32) (wC : Int32) (h0 : Heap) (n0 : Nat) (Z0 : n0 ≤ h0.size) (hy : ¬ (255 : Int32) < y) (hSC : Sta Z h0 "java/lang/String" "COMPACT_STRINGS" "Z" (.int wC)) (hwC : ¬ wC = (0 : Int32)) :
   own_Met l mN46 jdk_42_method_139_code 1 (some (.object "java/lang/String")) ws ({ frames := 2, cells := 2, slots := 5, locals := 27 } : Room) #[(.int y)] Z h0 (QrmVO Z y wC h0 n0) := by
 refine MetFree.of_bodySF (plainFor_of_name pn_String) hisR ?_
 intro p e s m args below meth c s₁ Bd hml0 hP hK
 obtain ⟨rfl, hZ, hh⟩ := hP
 have hml : c.maxLocals = 1 := hml0
 obtain ⟨hx, hby, hown, hnm, X0, e0⟩ := own_start Bd hml0 hh
 have N0 := Fr.nil n0
 have Y := @oY _ _ _ hby D_rmVO
 obtain ⟨P0, in0, pre0⟩ : ∃ P : State → Prop, (∀ tz, oS p e below s₁ (mkF m 0 #[iv y] []) tz → P tz) ∧ ∀ tz, P tz → Steps p.tables e below (s₁.setTop (entryFrame m #[(.int y)] 1)) tz := ⟨_, fun _ kz => kz, fun tz kz => castTop (by first | (simp [entryFrame, mkF, argsToLocals, Value.category]; done) | rfl) kz⟩
 obtain ⟨T1, X1, e1, st1⟩ := getS2 X0 hx hZ hown (host := "") (Or.inl (oq hw 87 rfl)) Via.refl e0 hSC (g := (mkF m 0 #[iv y] [])) rfl (Y 0 rfl)
 obtain ⟨_, T2, Lc2, X2, hQ2, st2⟩ := own_callS (W := 0) (y := mN43) X1 hx hZ hown (oq hw 307 rfl) (oq hw 308 rfl) (oq hw 241 rfl) (oq hw 309 rfl) (by decide) (rmCE l Z av0 hw [] y h0 n0 Z0 hy) (by decide) (by decide) (g := (mkF m 7 #[iv y] [(.int y)])) rfl (by rw [hml]; rfl) (argsL := [(.int y)]) (rest := []) (lenOf pd__C_Z rfl) rfl (Y 3 rfl) rfl e1 (by decide : 0 + 0 ≤ _) (by decide : 0 + 0 ≤ _)
 obtain ⟨rfl, N2q, hh2⟩ := hQ2
 have N2 := Fr.app N0 N2q
 have e2 : T2.heap = h0 := hh2
 obtain ⟨T3, h3, X3, e3, E3, A3, D3, -, st3⟩ := newO X2 hx hZ hown (oq hw 310 rfl) (oq hw 2 rfl) (oq hw 1 rfl) e2 (g := (mkF m 13 #[iv y] [])) rfl (Y 5 rfl) (by decide) (by decide)
 obtain ⟨b3, g3⟩ : ∃ z, z = h0.size := ⟨_, rfl⟩
 rw [← g3] at A3 D3 st3
 have ge_b3 : n0 ≤ b3 := Nat.le_trans Z0 (Nat.le_of_eq g3.symm)
 have sz_b3 : h0.size ≤ b3 := Nat.le_of_eq g3.symm
 have Z3 : n0 ≤ h3.size := Nat.le_trans Z0 E3.1
 have K3 : Keep h0 h3 [] := (Keep.refl h0 []).ext E3
 have F3_value : Fld Z h3 b3 "java/lang/String" "value" "[B" .null := D3 (Or.inr (oq hw 4 rfl)) (ty := (.array .byte)) (by decide)
 have F3_coder : Fld Z h3 b3 "java/lang/String" "coder" "B" (.int 0) := D3 (Or.inr (oq hw 5 rfl)) (ty := .byte) (by decide)
 obtain ⟨_, T4, Lc4, X4, hQ4, st4⟩ := own_callS (W := 2) (y := mN44) X3 hx hZ hown (oq hw 311 rfl) (oq hw 312 rfl) (oq hw 241 rfl) (oq hw 313 rfl) (by decide) (rmTB l Z av0 hw [] y h3 n0 Z3 ) (by decide) (by decide) (g := (mkF m 18 #[iv y] [(.int y), (.ref b3), (.ref b3)])) rfl (by rw [hml]; rfl) (argsL := [(.int y)]) (rest := [(.ref b3), (.ref b3)]) (lenOf pd__C_A_B rfl) rfl (Y 8 rfl) rfl e3 (by decide : 1 + 1 ≤ _) (by decide : 4 + 1 ≤ _)
 obtain ⟨b4, rfl, N4q, gb4, K4, V4⟩ := hQ4
 have N4 := Fr.app N2 N4q
 have e4 : T4.heap = T4.heap := rfl
 have ne_b3_b4 : b3 ≠ b4 := Nat.ne_of_lt (Nat.lt_of_lt_of_le A3.lt gb4)
 have ge_b4 : n0 ≤ b4 := Nat.le_trans Z3 gb4
 have sz_b4 : h0.size ≤ b4 := Nat.le_trans K3.1 gb4
 have Zk4 : n0 ≤ T4.heap.size := Nat.le_trans Z3 K4.1
 have Kk4 : Keep h0 T4.heap [] := K3.trans K4 all0
 have f5 := (A3.keep K4)
 have f6 := (F3_value.keep K4 nin0)
 have f7 := (F3_coder.keep K4 nin0)
 obtain ⟨_, T8, Lc8, X8, hQ8, st8⟩ := own_special (W := 1) (y := mN45) X4 hx hZ rfl hown (oq hw 314 rfl) (oq hw 315 rfl) (oq hw 316 rfl) (oq hw 1 rfl) (by decide) (rmS3 l Z av0 hw [] b3 b4 1 (own_up (fun _ => 0) 0 (nar .byte (y).toInt8.toInt32)) T4.heap n0 Zk4 f5 f6 f7 ge_b3 V4 ne_b3_b4) (by decide) (by decide) (g := (mkF m 22 #[iv y] [(.int 0), (.ref b4), (.ref b3), (.ref b3)])) rfl (by rw [hml]; rfl) (a := b3) (argsL := [(.ref b4), (.int 0)]) (rest := [(.ref b3)]) (lenOf pd__A_BB_V rfl) rfl (Y 10 rfl) rfl e4 (by decide : 2 + 0 ≤ _) (by decide : 5 + 0 ≤ _)
 obtain ⟨rfl, N8q, K8, Db8⟩ := hQ8
 have N8 := Fr.app N4 N8q
 have e8 : T8.heap = T8.heap := rfl
 have Zk8 : n0 ≤ T8.heap.size := Nat.le_trans Zk4 K8.1
 have Kk8 : Keep h0 T8.heap [] := Kk4.trans K8 (allS (Or.inr sz_b3) all0)
 have S9 : ∀ tz, oS p e below T8 (mkF m 25 #[iv y] [(.ref b3)]) tz → P0 tz := fun tz kz => in0 tz (by
  refine st1 _ ?_
  refine XS.ifNo X1.here hx rfl (Y 1 rfl) rfl (XT.i0_eq_f hwC) ?_
  refine XS.iloadN X1.here hx rfl (Y 2 rfl) rfl ?_
  refine st2 _ ?_
  refine XS.ifNo X2.here hx rfl (Y 4 rfl) rfl (XT.i0_eq_f (by decide)) ?_
  refine st3 _ ?_
  refine XS.dup X3.here hx rfl (Y 6 rfl) rfl rfl ?_
  refine XS.iloadN X3.here hx rfl (Y 7 rfl) rfl ?_
  refine st4 _ ?_
  refine XT.iconstV X4.here hx rfl (0 : Int32) (Y 9 rfl) (by decide) ?_
  show oS p e below T4 (mkF m 22 #[iv y] [(.int 0), (.ref b4), (.ref b3), (.ref b3)]) _
  refine st8 _ ?_
  exact kz)
 obtain ⟨fs, hr, hrun, hended, hW, hsame⟩ := X8.leave (v := some (.ref b3)) (fun h => by rw [Bd.returns] at h; cases h)
 refine ⟨_, _, pre0 _ (S9 _ ?_), hrun, hended, _, _, rfl, ?_, ⟨_, rfl⟩, hW, hsame.mono (by decide) (by decide)⟩
 · jvm_step X8.here [X8.here.top, hx, (Y 11 rfl), X8.method', Bd.returns, Value.isRef, FieldType.isReference]
   first | (intro acts; rw [hr _ acts rfl rfl rfl]) | rw [hr _ _ rfl rfl rfl]
   exact Steps.refl _
 · show QrmVO Z y wC h0 n0 _ T8.heap _
   rw [e8]
   exact ⟨b3, b4, _, rfl, N8, Kk8, Db8, sz_b3, sz_b4⟩
theorem D_rmCp5_2 : oL jdk_52_method_21_code [(0, .iconst 0, 1), (1, .istore 5, 2), (3, .iload 5, 2), (5, .iload 4, 2), (7, .if_icmp .ge 37, 3), (10, .aload_n 0, 1), (11, .iload_n 1, 1), (12, .caload, 1), (13, .istore 6, 2), (15, .iload 6, 2), (17, .sipush 255, 3), (20, .if_icmp .le 6, 3), (26, .aload_n 2, 1), (27, .iload_n 3, 1), (28, .iload 6, 2), (30, .i2b, 1), (31, .bastore, 1), (32, .iinc 1 1, 3), (35, .iinc 3 1, 3), (38, .iinc 5 1, 3), (41, .goto (-38), 3), (44, .iload 4, 2), (46, .ireturn, 1)] := by decide +kernel
theorem pn_StringUTF16 : plainName "java/lang/StringUTF16" = true := by first | (simp [plainName, overriddenIn]; done) | decide +kernel
def QrmCp5_2 (Z : State) (a0 : Addr) (a2 : Addr) (ka : ClassId) (kb : ClassId) (c0 : Int32) (c1 : Int32) (h0 : Heap) (n0 : Nat) (v : Option Value) (h : Heap) (L : List Loc) : Prop := v = some (.int (2 : Int32)) ∧ Fr n0 L ∧ Keep h0 h [a2] ∧ Arv Z h a2 kb .byte (2 : Int32) [(.int (nar .byte (c0).toInt8.toInt32)), (.int (nar .byte (c1).toInt8.toInt32))] (.int (0 : Int32))
theorem rmCp5_2 (l : Launch) (Z : State) (av0 : Array Value) (hw : ∀ d ∈ tables_1, d.before av0 Z = true) (ws : List Jvm.Cond) (a0 : Addr) (a2 : Addr) (ka : ClassId) (kb : ClassId) (c0 : Int32) (c1 : Int32) (h0 : Heap) (n0 : Nat) (Z0 : n0 ≤ h0.size) (hA : Arv Z h0 a0 ka .char (2 : Int32) [(.int c0), (.int c1)] (.int (0 : Int32))) (hB : Arv Z h0 a2 kb .byte (2 : Int32) [(.int (0 : Int32)), (.int (0 : Int32))] (.int (0 : Int32))) (hne : a0 ≠ a2) (hge : n0 ≤ a2) (hc0 : ¬ (255 : Int32) < c0) (hc1 : ¬ (255 : Int32) < c1) :
   own_Met l mN47 jdk_52_method_21_code 7 (some .int) ws ({ frames := 0, cells := 0, slots := 0, locals := 0 } : Room) #[(.ref a0), (.int 0), (.ref a2), (.int 0), (.int 2)] Z h0 (QrmCp5_2 Z a0 a2 ka kb c0 c1 h0 n0) := by
 refine MetFree.of_bodySF (plainFor_of_name pn_StringUTF16) hisR ?_
 intro p e s m args below meth c s₁ Bd hml0 hP hK
 obtain ⟨rfl, hZ, hh⟩ := hP
 have hml : c.maxLocals = 7 := hml0
 obtain ⟨hx, hby, hown, hnm, X0, e0⟩ := own_start Bd hml0 hh
 have N0 := Fr.nil n0
 have Y := @oY _ _ _ hby D_rmCp5_2
 obtain ⟨P0, in0, pre0⟩ : ∃ P : State → Prop, (∀ tz, oS p e below s₁ (mkF m 0 #[rv a0, iv 0, rv a2, iv 0, iv 2, .unset, .unset] []) tz → P tz) ∧ ∀ tz, P tz → Steps p.tables e below (s₁.setTop (entryFrame m #[(.ref a0), (.int 0), (.ref a2), (.int 0), (.int 2)] 7)) tz := ⟨_, fun _ kz => kz, fun tz kz => castTop (by first | (simp [entryFrame, mkF, argsToLocals, Value.category]; done) | rfl) kz⟩
 obtain ⟨cl1, Ar1, qk1, Sz1, Ng1, Hs1, Gs1⟩ := id hA
 have hin1 : ¬ ((0 : Int32) < 0 ∨ cl1.slots.size ≤ ((0 : Int32)).toNatClampNeg) := inb_of Sz1 ⟨by decide, by decide⟩
 have hat1 : cl1.slots[((0 : Int32)).toNatClampNeg]? = some (.int c0) := Hs1.at hin1 rfl
 obtain ⟨cl2, Ar2, qk2, Sz2, Ng2, Hs2, Gs2⟩ := id hB
 have hin2 : ¬ ((0 : Int32) < 0 ∨ cl2.slots.size ≤ ((0 : Int32)).toNatClampNeg) := inb_of Sz2 ⟨by decide, by decide⟩
 obtain ⟨T3, h3, X3, e3, W3, st3⟩ := stB X0 hx hZ e0 Ar2 (j := (0 : Int32)) hin2 (g := (mkF m 31 #[rv a0, iv 0, rv a2, iv 0, iv 2, iv 0, iv c0] [(.int (c0).toInt8.toInt32), (.int 0), (.ref a2)])) rfl rfl (Y 16 rfl)
 have N3 := Fr.snoc X3 N0 hge
 have Z3 : n0 ≤ h3.size := Nat.le_trans Z0 (Nat.le_of_eq W3.size.symm)
 have K3 : Keep h0 h3 [a2] := (Keep.refl h0 [a2]).wr W3 (Or.inl (List.mem_of_getElem? (i := 0) rfl))
 have V3 : Arv Z h3 a2 kb .byte (2 : Int32) [(.int (nar .byte (c0).toInt8.toInt32)), (.int (0 : Int32))] (.int (0 : Int32)) := Arv.set Ar2 qk2 Sz2 Ng2 Hs2 Gs2 (fits_nar_byte _) W3 0 rfl (Nat.le_of_ble_eq_true rfl)
 have f4 := (hA.other W3 hne)
 obtain ⟨cl5, Ar5, qk5, Sz5, Ng5, Hs5, Gs5⟩ := id f4
 have hin5 : ¬ ((1 : Int32) < 0 ∨ cl5.slots.size ≤ ((1 : Int32)).toNatClampNeg) := inb_of Sz5 ⟨by decide, by decide⟩
 have hat5 : cl5.slots[((1 : Int32)).toNatClampNeg]? = some (.int c1) := Hs5.at hin5 rfl
 obtain ⟨cl6, Ar6, qk6, Sz6, Ng6, Hs6, Gs6⟩ := id V3
 have hin6 : ¬ ((1 : Int32) < 0 ∨ cl6.slots.size ≤ ((1 : Int32)).toNatClampNeg) := inb_of Sz6 ⟨by decide, by decide⟩
 obtain ⟨T7, h7, X7, e7, W7, st7⟩ := stB X3 hx hZ e3 Ar6 (j := (1 : Int32)) hin6 (g := (mkF m 31 #[rv a0, iv 1, rv a2, iv 1, iv 2, iv 1, iv c1] [(.int (c1).toInt8.toInt32), (.int 1), (.ref a2)])) rfl rfl (Y 16 rfl)
 have N7 := Fr.snoc X7 N3 hge
 have Z7 : n0 ≤ h7.size := Nat.le_trans Z3 (Nat.le_of_eq W7.size.symm)
 have K7 : Keep h0 h7 [a2] := K3.wr W7 (Or.inl (List.mem_of_getElem? (i := 0) rfl))
 have V7 : Arv Z h7 a2 kb .byte (2 : Int32) [(.int (nar .byte (c0).toInt8.toInt32)), (.int (nar .byte (c1).toInt8.toInt32))] (.int (0 : Int32)) := Arv.set Ar6 qk6 Sz6 Ng6 Hs6 Gs6 (fits_nar_byte _) W7 1 rfl (Nat.le_of_ble_eq_true rfl)
 have S8 : ∀ tz, oS p e below T7 (mkF m 46 #[rv a0, iv 2, rv a2, iv 2, iv 2, iv 2, iv c1] [(.int 2)]) tz → P0 tz := fun tz kz => in0 tz (by
  refine XT.iconstV X0.here hx rfl (0 : Int32) (Y 0 rfl) (by decide) ?_
  refine XS.istore X0.here hx rfl (Y 1 rfl) rfl (l' := #[rv a0, iv 0, rv a2, iv 0, iv 2, iv 0, .unset]) rfl ?_
  refine XS.iload X0.here hx rfl (Y 2 rfl) rfl ?_
  refine XS.iload X0.here hx rfl (Y 3 rfl) rfl ?_
  refine XS.icmpNo X0.here hx rfl (Y 4 rfl) rfl (XT.ii_ge_f (by decide)) ?_
  refine XS.aloadN X0.here hx rfl (Y 5 rfl) rfl rfl ?_
  refine XS.iloadN X0.here hx rfl (Y 6 rfl) rfl ?_
  refine X0.caload hx (j := (0 : Int32)) (v := (.int c0)) (by rw [e0]; exact Ar1.1) (State.isArrayOf_alike hZ.alike Ar1.2.1) Ar1.2.2 hin1 hat1 (g := (mkF m 12 #[rv a0, iv 0, rv a2, iv 0, iv 2, iv 0, .unset] [(.int 0), (.ref a0)])) rfl rfl (Y 7 rfl) _ ?_
  refine XS.istore X0.here hx rfl (Y 8 rfl) rfl (l' := #[rv a0, iv 0, rv a2, iv 0, iv 2, iv 0, iv c0]) rfl ?_
  refine XS.iload X0.here hx rfl (Y 9 rfl) rfl ?_
  show oS p e below s₁ (mkF m 17 #[rv a0, iv 0, rv a2, iv 0, iv 2, iv 0, iv c0] [(.int c0)]) _
  refine XT.sipushV X0.here hx rfl (255 : Int32) (Y 10 rfl) (by decide) ?_
  refine XS.icmpYes X0.here hx rfl (pc0 := 20) (pc' := 26) rfl (Y 11 rfl) rfl (XT.ii_le_t hc0) (by decide) (by decide) ?_
  refine XS.aloadN X0.here hx rfl (Y 12 rfl) rfl rfl ?_
  refine XS.iloadN X0.here hx rfl (Y 13 rfl) rfl ?_
  refine XS.iload X0.here hx rfl (Y 14 rfl) rfl ?_
  refine XT.i2b X0.here hx rfl (Y 15 rfl) rfl ?_
  refine st3 _ ?_
  refine XT.iincV X3.here hx rfl (1 : Int32) (Y 17 rfl) (by decide) rfl (l' := #[rv a0, iv 1, rv a2, iv 0, iv 2, iv 0, iv c0]) rfl ?_
  refine XT.iincV X3.here hx rfl (1 : Int32) (Y 18 rfl) (by decide) rfl (l' := #[rv a0, iv 1, rv a2, iv 1, iv 2, iv 0, iv c0]) rfl ?_
  refine XT.iincV X3.here hx rfl (1 : Int32) (Y 19 rfl) (by decide) rfl (l' := #[rv a0, iv 1, rv a2, iv 1, iv 2, iv 1, iv c0]) rfl ?_
  show oS p e below T3 (mkF m 41 #[rv a0, iv 1, rv a2, iv 1, iv 2, iv 1, iv c0] []) _
  refine XS.goto X3.here hx rfl (pc0 := 41) (pc' := 3) rfl (Y 20 rfl) (by decide) (by decide) ?_
  refine XS.iload X3.here hx rfl (Y 2 rfl) rfl ?_
  refine XS.iload X3.here hx rfl (Y 3 rfl) rfl ?_
  refine XS.icmpNo X3.here hx rfl (Y 4 rfl) rfl (XT.ii_ge_f (by decide)) ?_
  refine XS.aloadN X3.here hx rfl (Y 5 rfl) rfl rfl ?_
  refine XS.iloadN X3.here hx rfl (Y 6 rfl) rfl ?_
  refine X3.caload hx (j := (1 : Int32)) (v := (.int c1)) (by rw [e3]; exact Ar5.1) (State.isArrayOf_alike hZ.alike Ar5.2.1) Ar5.2.2 hin5 hat5 (g := (mkF m 12 #[rv a0, iv 1, rv a2, iv 1, iv 2, iv 1, iv c0] [(.int 1), (.ref a0)])) rfl rfl (Y 7 rfl) _ ?_
  refine XS.istore X3.here hx rfl (Y 8 rfl) rfl (l' := #[rv a0, iv 1, rv a2, iv 1, iv 2, iv 1, iv c1]) rfl ?_
  refine XS.iload X3.here hx rfl (Y 9 rfl) rfl ?_
  refine XT.sipushV X3.here hx rfl (255 : Int32) (Y 10 rfl) (by decide) ?_
  show oS p e below T3 (mkF m 20 #[rv a0, iv 1, rv a2, iv 1, iv 2, iv 1, iv c1] [(.int 255), (.int c1)]) _
  refine XS.icmpYes X3.here hx rfl (pc0 := 20) (pc' := 26) rfl (Y 11 rfl) rfl (XT.ii_le_t hc1) (by decide) (by decide) ?_
  refine XS.aloadN X3.here hx rfl (Y 12 rfl) rfl rfl ?_
  refine XS.iloadN X3.here hx rfl (Y 13 rfl) rfl ?_
  refine XS.iload X3.here hx rfl (Y 14 rfl) rfl ?_
  refine XT.i2b X3.here hx rfl (Y 15 rfl) rfl ?_
  refine st7 _ ?_
  refine XT.iincV X7.here hx rfl (1 : Int32) (Y 17 rfl) (by decide) rfl (l' := #[rv a0, iv 2, rv a2, iv 1, iv 2, iv 1, iv c1]) rfl ?_
  refine XT.iincV X7.here hx rfl (1 : Int32) (Y 18 rfl) (by decide) rfl (l' := #[rv a0, iv 2, rv a2, iv 2, iv 2, iv 1, iv c1]) rfl ?_
  refine XT.iincV X7.here hx rfl (1 : Int32) (Y 19 rfl) (by decide) rfl (l' := #[rv a0, iv 2, rv a2, iv 2, iv 2, iv 2, iv c1]) rfl ?_
  refine XS.goto X7.here hx rfl (pc0 := 41) (pc' := 3) rfl (Y 20 rfl) (by decide) (by decide) ?_
  show oS p e below T7 (mkF m 3 #[rv a0, iv 2, rv a2, iv 2, iv 2, iv 2, iv c1] []) _
  refine XS.iload X7.here hx rfl (Y 2 rfl) rfl ?_
  refine XS.iload X7.here hx rfl (Y 3 rfl) rfl ?_
  refine XS.icmpYes X7.here hx rfl (pc0 := 7) (pc' := 44) rfl (Y 4 rfl) rfl (XT.ii_ge_t (by decide)) (by decide) (by decide) ?_
  refine XS.iload X7.here hx rfl (Y 21 rfl) rfl ?_
  exact kz)
 obtain ⟨fs, hr, hrun, hended, hW, hsame⟩ := X7.leave (v := some (.int 2)) (fun h => by rw [Bd.returns] at h; cases h)
 refine ⟨_, _, pre0 _ (S8 _ ?_), hrun, hended, _, _, rfl, ?_, ⟨_, rfl⟩, hW, hsame.mono (by decide) (by decide)⟩
 · exact retI X7 hx Bd.returns (Y 22 rfl) hr
 · show QrmCp5_2 Z a0 a2 ka kb c0 c1 h0 n0 _ T7.heap _
   rw [e7]
   exact ⟨rfl, N7, K7, V7⟩
theorem D_rmCp3_2 : oL jdk_52_method_16_code [(0, .iload_n 2, 1), (1, .newarray .byte, 2), (3, .astore_n 3, 1), (4, .aload_n 0, 1), (5, .iload_n 1, 1), (6, .aload_n 3, 1), (7, .iconst 0, 1), (8, .iload_n 2, 1), (9, .invokestatic 115, 3), (12, .istore 4, 2), (14, .iload 4, 2), (16, .iload_n 2, 1), (17, .if_icmp .eq 40, 3), (57, .aload_n 3, 1), (58, .areturn, 1)] := by decide +kernel
theorem pd__A_CIA_BII_I : parseMethodDescriptor "([CI[BII)I" = some ⟨[(.array .char), .int, (.array .byte), .int, .int], some .int⟩ := by decide +kernel
def QrmCp3_2 (Z : State) (a0 : Addr) (ka : ClassId) (c0 : Int32) (c1 : Int32) (h0 : Heap) (n0 : Nat) (v : Option Value) (h : Heap) (L : List Loc) : Prop := ∃ (b : Addr) (k : ClassId), v = some (.ref b) ∧ Fr n0 L ∧ h0.size ≤ b ∧ Keep h0 h [] ∧ Arv Z h b k .byte (2 : Int32) [(.int (nar .byte (c0).toInt8.toInt32)), (.int (nar .byte (c1).toInt8.toInt32))] (.int (0 : Int32))
theorem rmCp3_2 (l : Launch) (Z : State) (av0 : Array Value) (hw : ∀ d ∈ tables_1, d.before av0 Z = true) (ws : List Jvm.Cond) (a0 : Addr) (ka : ClassId) (c0 : Int32) (c1 : Int32) (h0 : Heap) (n0 : Nat) (Z0 : n0 ≤ h0.size) (hA : Arv Z h0 a0 ka .char (2 : Int32) [(.int c0), (.int c1)] (.int (0 : Int32))) (hc0 : ¬ (255 : Int32) < c0) (hc1 : ¬ (255 : Int32) < c1) :
   own_Met l mN48 jdk_52_method_16_code 6 (some (.array .byte)) ws ({ frames := 1, cells := 1, slots := 2, locals := 18 } : Room) #[(.ref a0), (.int 0), (.int 2)] Z h0 (QrmCp3_2 Z a0 ka c0 c1 h0 n0) := by
 refine MetFree.of_bodySF (plainFor_of_name pn_StringUTF16) hisR ?_
 intro p e s m args below meth c s₁ Bd hml0 hP hK
 obtain ⟨rfl, hZ, hh⟩ := hP
 have hml : c.maxLocals = 6 := hml0
 obtain ⟨hx, hby, hown, hnm, X0, e0⟩ := own_start Bd hml0 hh
 have N0 := Fr.nil n0
 have Y := @oY _ _ _ hby D_rmCp3_2
 obtain ⟨P0, in0, pre0⟩ : ∃ P : State → Prop, (∀ tz, oS p e below s₁ (mkF m 0 #[rv a0, iv 0, iv 2, .unset, .unset, .unset] []) tz → P tz) ∧ ∀ tz, P tz → Steps p.tables e below (s₁.setTop (entryFrame m #[(.ref a0), (.int 0), (.int 2)] 6)) tz := ⟨_, fun _ kz => kz, fun tz kz => castTop (by first | (simp [entryFrame, mkF, argsToLocals, Value.category]; done) | rfl) kz⟩
 obtain ⟨T1, h1, k1, X1, e1, E1, A1, st1⟩ := newP X0 hx hZ (oq hw 3 rfl) e0 (g := (mkF m 1 #[rv a0, iv 0, iv 2, .unset, .unset, .unset] [(.int 2)])) rfl (Y 1 rfl) rfl (by decide) (cap := 2) (by decide) (by decide) (by decide) (by decide)
 obtain ⟨b1, g1⟩ : ∃ z, z = h0.size := ⟨_, rfl⟩
 rw [← g1] at A1 st1
 have ne_a0_b1 : a0 ≠ b1 := Nat.ne_of_lt (Nat.lt_of_lt_of_le hA.lt (Nat.le_of_eq g1.symm))
 have ge_b1 : n0 ≤ b1 := Nat.le_trans Z0 (Nat.le_of_eq g1.symm)
 have sz_b1 : h0.size ≤ b1 := Nat.le_of_eq g1.symm
 have Z1 : n0 ≤ h1.size := Nat.le_trans Z0 E1.1
 have K1 : Keep h0 h1 [] := (Keep.refl h0 []).ext E1
 have V1 : Arv Z h1 b1 k1 .byte (2 : Int32) [(.int (0 : Int32)), (.int (0 : Int32))] (.int (0 : Int32)) := (Arv.new A1 (by decide)).pad (pad_rep [] (.int (0 : Int32)) 2)
 have f2 := (hA.ext E1)
 obtain ⟨_, T3, Lc3, X3, hQ3, st3⟩ := own_callS (W := 0) (y := mN47) X1 hx hZ hown (oq hw 297 rfl) (oq hw 298 rfl) (oq hw 295 rfl) (oq hw 299 rfl) (by decide) (rmCp5_2 l Z av0 hw [] a0 b1 ka k1 c0 c1 h1 n0 Z1 f2 V1 ne_a0_b1 ge_b1 hc0 hc1) (by decide) (by decide) (g := (mkF m 9 #[rv a0, iv 0, iv 2, rv b1, .unset, .unset] [(.int 2), (.int 0), (.ref b1), (.int 0), (.ref a0)])) rfl (by rw [hml]; rfl) (argsL := [(.ref a0), (.int 0), (.ref b1), (.int 0), (.int 2)]) (rest := []) (lenOf pd__A_CIA_BII_I rfl) rfl (Y 8 rfl) rfl e1 (by decide : 1 + 0 ≤ _) (by decide : 2 + 0 ≤ _)
 obtain ⟨rfl, N3q, K3, V3⟩ := hQ3
 have N3 := Fr.app N0 N3q
 have e3 : T3.heap = T3.heap := rfl
 have Zk3 : n0 ≤ T3.heap.size := Nat.le_trans Z1 K3.1
 have Kk3 : Keep h0 T3.heap [] := K1.trans K3 (allS (Or.inr sz_b1) all0)
 have S4 : ∀ tz, oS p e below T3 (mkF m 58 #[rv a0, iv 0, iv 2, rv b1, iv 2, .unset] [(.ref b1)]) tz → P0 tz := fun tz kz => in0 tz (by
  refine XS.iloadN X0.here hx rfl (Y 0 rfl) rfl ?_
  refine st1 _ ?_
  refine XS.astoreN X1.here hx rfl (Y 2 rfl) rfl rfl (l' := #[rv a0, iv 0, iv 2, rv b1, .unset, .unset]) rfl ?_
  refine XS.aloadN X1.here hx rfl (Y 3 rfl) rfl rfl ?_
  refine XS.iloadN X1.here hx rfl (Y 4 rfl) rfl ?_
  refine XS.aloadN X1.here hx rfl (Y 5 rfl) rfl rfl ?_
  refine XT.iconstV X1.here hx rfl (0 : Int32) (Y 6 rfl) (by decide) ?_
  refine XS.iloadN X1.here hx rfl (Y 7 rfl) rfl ?_
  refine st3 _ ?_
  refine XS.istore X3.here hx rfl (Y 9 rfl) rfl (l' := #[rv a0, iv 0, iv 2, rv b1, iv 2, .unset]) rfl ?_
  show oS p e below T3 (mkF m 14 #[rv a0, iv 0, iv 2, rv b1, iv 2, .unset] []) _
  refine XS.iload X3.here hx rfl (Y 10 rfl) rfl ?_
  refine XS.iloadN X3.here hx rfl (Y 11 rfl) rfl ?_
  refine XS.icmpYes X3.here hx rfl (pc0 := 17) (pc' := 57) rfl (Y 12 rfl) rfl (XT.ii_eq_t (by decide)) (by decide) (by decide) ?_
  refine XS.aloadN X3.here hx rfl (Y 13 rfl) rfl rfl ?_
  exact kz)
 obtain ⟨fs, hr, hrun, hended, hW, hsame⟩ := X3.leave (v := some (.ref b1)) (fun h => by rw [Bd.returns] at h; cases h)
 refine ⟨_, _, pre0 _ (S4 _ ?_), hrun, hended, _, _, rfl, ?_, ⟨_, rfl⟩, hW, hsame.mono (by decide) (by decide)⟩
 · jvm_step X3.here [X3.here.top, hx, (Y 14 rfl), X3.method', Bd.returns, Value.isRef, FieldType.isReference]
   first | (intro acts; rw [hr _ acts rfl rfl rfl]) | rw [hr _ _ rfl rfl rfl]
   exact Steps.refl _
 · show QrmCp3_2 Z a0 ka c0 c1 h0 n0 _ T3.heap _
   rw [e3]
   exact ⟨_, _, rfl, N3, sz_b1, Kk3, V3⟩
theorem D_rmCd_2 : oL jdk_52_method_15_code [(0, .iload_n 1, 1), (1, .aload_n 0, 1), (2, .arraylength, 1), (3, .isub, 1), (4, .bipush 31, 2), (6, .iushr, 1), (7, .i2b, 1), (8, .ireturn, 1)] := by decide +kernel
def QrmCd_2 (Z : State) (a0 : Addr) (ka : ClassId) (vs : List Value) (h0 : Heap) (n0 : Nat) (v : Option Value) (h : Heap) (L : List Loc) : Prop := v = some (.int 0) ∧ Fr n0 L ∧ h = h0
theorem rmCd_2 (l : Launch) (Z : State) (av0 : Array Value) (hw : ∀ d ∈ tables_1, d.before av0 Z = true) (ws : List Jvm.Cond) (a0 : Addr) (ka : ClassId) (vs : List Value) (h0 : Heap) (n0 : Nat) (Z0 : n0 ≤ h0.size) (hA : Arv Z h0 a0 ka .byte (2 : Int32) vs (.int (0 : Int32))) :
   own_Met l mN49 jdk_52_method_15_code 2 (some .byte) ws ({ frames := 0, cells := 0, slots := 0, locals := 0 } : Room) #[(.ref a0), (.int 2)] Z h0 (QrmCd_2 Z a0 ka vs h0 n0) := by
 refine MetFree.of_bodySF (plainFor_of_name pn_StringUTF16) hisR ?_
 intro p e s m args below meth c s₁ Bd hml0 hP hK
 obtain ⟨rfl, hZ, hh⟩ := hP
 have hml : c.maxLocals = 2 := hml0
 obtain ⟨hx, hby, hown, hnm, X0, e0⟩ := own_start Bd hml0 hh
 have N0 := Fr.nil n0
 have Y := @oY _ _ _ hby D_rmCd_2
 obtain ⟨P0, in0, pre0⟩ : ∃ P : State → Prop, (∀ tz, oS p e below s₁ (mkF m 0 #[rv a0, iv 2] []) tz → P tz) ∧ ∀ tz, P tz → Steps p.tables e below (s₁.setTop (entryFrame m #[(.ref a0), (.int 2)] 2)) tz := ⟨_, fun _ kz => kz, fun tz kz => castTop (by first | (simp [entryFrame, mkF, argsToLocals, Value.category]; done) | rfl) kz⟩
 obtain ⟨cl1, Ar1, qk1, Sz1, Ng1, Hs1, Gs1⟩ := id hA
 have S2 : ∀ tz, oS p e below s₁ (mkF m 8 #[rv a0, iv 2] [(.int 0)]) tz → P0 tz := fun tz kz => in0 tz (by
  refine XS.iloadN X0.here hx rfl (Y 0 rfl) rfl ?_
  refine XS.aloadN X0.here hx rfl (Y 1 rfl) rfl rfl ?_
  refine X0.arraylength hx (by rw [e0]; exact Ar1.1) (State.isArrayOf_alike hZ.alike Ar1.2.1) (g := (mkF m 2 #[rv a0, iv 2] [(.ref a0), (.int 2)])) rfl rfl (Y 2 rfl) _ ?_
  rw [len_of Sz1 Ng1]
  refine XS.isub X0.here hx rfl (Y 3 rfl) rfl ?_
  refine XT.bipushV X0.here hx rfl (31 : Int32) (Y 4 rfl) (by decide) ?_
  refine XT.iushr X0.here hx rfl (Y 5 rfl) rfl ?_
  refine XT.i2b X0.here hx rfl (Y 6 rfl) rfl ?_
  exact kz)
 obtain ⟨fs, hr, hrun, hended, hW, hsame⟩ := X0.leave (v := some (.int (nar .byte (0 : Int32)))) (fun h => by rw [Bd.returns] at h; cases h)
 refine ⟨_, _, pre0 _ (S2 _ ?_), hrun, hended, _, _, rfl, ?_, ⟨_, rfl⟩, hW, hsame.mono (by decide) (by decide)⟩
 · exact retN X0 hx (t := .byte) Bd.returns (by simp) (Y 7 rfl) hr
 · show QrmCd_2 Z a0 ka vs h0 n0 _ s₁.heap _
   rw [e0]
   exact ⟨congrArg (fun z => some (Value.int z)) (by decide), N0, rfl⟩
theorem D_rmSi4_2 : oL jdk_42_method_149_code [(0, .aload_n 0, 1), (1, .invokespecial 1, 3), (4, .iload_n 3, 1), (5, .ifCond .ne 22, 3), (27, .getstatic 38, 3), (30, .ifCond .eq 28, 3), (33, .aload_n 1, 1), (34, .iload_n 2, 1), (35, .iload_n 3, 1), (36, .invokestatic 177, 3), (39, .astore 5, 2), (41, .aload_n 0, 1), (42, .aload 5, 2), (44, .iload_n 3, 1), (45, .invokestatic 47, 3), (48, .putfield 15, 3), (51, .aload_n 0, 1), (52, .aload 5, 2), (54, .putfield 9, 3), (57, .return_, 1)] := by decide +kernel
theorem pd__A_CII_A_B : parseMethodDescriptor "([CII)[B" = some ⟨[(.array .char), .int, .int], some (.array .byte)⟩ := by decide +kernel
theorem pd__A_BI_B : parseMethodDescriptor "([BI)B" = some ⟨[(.array .byte), .int], some .byte⟩ := by decide +kernel
def QrmSi4_2 (Z : State) (a0 : Addr) (a1 : Addr) (ka : ClassId) (wC : Int32) (c0 : Int32) (c1 : Int32) (h0 : Heap) (n0 : Nat) (v : Option Value) (h : Heap) (L : List Loc) : Prop := v = none ∧ Fr n0 L ∧ Keep h0 h [a0] ∧ Fld Z h a0 "java/lang/String" "coder" "B" (.int (0 : Int32)) ∧ ∃ (b : Addr) (k : ClassId), Fld Z h a0 "java/lang/String" "value" "[B" (.ref b) ∧ Arv Z h b k .byte (2 : Int32) [(.int (nar .byte (c0).toInt8.toInt32)), (.int (nar .byte (c1).toInt8.toInt32))] (.int (0 : Int32)) ∧ h0.size ≤ b
theorem rmSi4_2 (l : Launch) (Z : State) (av0 : Array Value) (hw : ∀ d ∈ tables_1, d.before av0 Z = true) (ws : List Jvm.Cond) (a0 : Addr) (a1 : Addr) (ka : ClassId) (wC : Int32) (c0 : Int32) (c1 : Int32) (h0 : Heap) (n0 : Nat) (Z0 : n0 ≤ h0.size) (hE : Exa Z h0 a0 "java/lang/String") (hV : Fld Z h0 a0 "java/lang/String" "value" "[B" .null) (hC : Fld Z h0 a0 "java/lang/String" "coder" "B" (.int (0 : Int32))) (hge : n0 ≤ a0) (hA : Arv Z h0 a1 ka .char (2 : Int32) [(.int c0), (.int c1)] (.int (0 : Int32))) (hS : Sta Z h0 "java/lang/String" "COMPACT_STRINGS" "Z" (.int wC)) (hw0 : ¬ wC = (0 : Int32)) (hc0 : ¬ (255 : Int32) < c0) (hc1 : ¬ (255 : Int32) < c1) :
   own_Met l mN50 jdk_42_method_149_code 6 none ws ({ frames := 2, cells := 1, slots := 2, locals := 35 } : Room) #[(.ref a0), (.ref a1), (.int 0), (.int 2), .null] Z h0 (QrmSi4_2 Z a0 a1 ka wC c0 c1 h0 n0) := by
 refine MetFree.of_bodySF (plainFor_of_name pn_String) hisR ?_
 intro p e s m args below meth c s₁ Bd hml0 hP hK
 obtain ⟨rfl, hZ, hh⟩ := hP
 have hml : c.maxLocals = 6 := hml0
 obtain ⟨hx, hby, hown, hnm, X0, e0⟩ := own_start Bd hml0 hh
 have N0 := Fr.nil n0
 have Y := @oY _ _ _ hby D_rmSi4_2
 obtain ⟨P0, in0, pre0⟩ : ∃ P : State → Prop, (∀ tz, oS p e below s₁ (mkF m 0 #[rv a0, rv a1, iv 0, iv 2, .val .null, .unset] []) tz → P tz) ∧ ∀ tz, P tz → Steps p.tables e below (s₁.setTop (entryFrame m #[(.ref a0), (.ref a1), (.int 0), (.int 2), .null] 6)) tz := ⟨_, fun _ kz => kz, fun tz kz => castTop (by first | (simp [entryFrame, mkF, argsToLocals, Value.category]; done) | rfl) kz⟩
 obtain ⟨T1, X1, e1, st1⟩ := initO X0 hx hZ hown (oq hw 196 rfl) (oq hw 15 rfl) (oq hw 16 rfl) e0 (g := (mkF m 1 #[rv a0, rv a1, iv 0, iv 2, .val .null, .unset] [(.ref a0)])) rfl (by rw [hml]; rfl) rfl (Y 1 rfl) (by decide) (W := 0) (by show 2 * 0 + _ ≤ _; exact Nat.le_of_eq rfl) (by decide)
 obtain ⟨T2, X2, e2, st2⟩ := getS2 X1 hx hZ hown (host := "") (Or.inl (oq hw 87 rfl)) Via.refl e1 hS (g := (mkF m 27 #[rv a0, rv a1, iv 0, iv 2, .val .null, .unset] [])) rfl (Y 4 rfl)
 obtain ⟨_, T3, Lc3, X3, hQ3, st3⟩ := own_callS (W := 0) (y := mN48) X2 hx hZ hown (oq hw 293 rfl) (oq hw 294 rfl) (oq hw 295 rfl) (oq hw 296 rfl) (by decide) (rmCp3_2 l Z av0 hw [] a1 ka c0 c1 h0 n0 Z0 hA hc0 hc1) (by decide) (by decide) (g := (mkF m 36 #[rv a0, rv a1, iv 0, iv 2, .val .null, .unset] [(.int 2), (.int 0), (.ref a1)])) rfl (by rw [hml]; rfl) (argsL := [(.ref a1), (.int 0), (.int 2)]) (rest := []) (lenOf pd__A_CII_A_B rfl) rfl (Y 9 rfl) rfl e2 (by decide : 0 + 1 ≤ _) (by decide : 0 + 2 ≤ _)
 obtain ⟨b3, kb3, rfl, N3q, gb3, K3, V3⟩ := hQ3
 have N3 := Fr.app N0 N3q
 have e3 : T3.heap = T3.heap := rfl
 have ne_a0_b3 : a0 ≠ b3 := Nat.ne_of_lt (Nat.lt_of_lt_of_le hE.lt gb3)
 have ne_a1_b3 : a1 ≠ b3 := Nat.ne_of_lt (Nat.lt_of_lt_of_le hA.lt gb3)
 have ge_b3 : n0 ≤ b3 := Nat.le_trans Z0 gb3
 have sz_b3 : h0.size ≤ b3 := gb3
 have Zk3 : n0 ≤ T3.heap.size := Nat.le_trans Z0 K3.1
 have Kk3 : Keep h0 T3.heap [a0] := (Keep.refl h0 [a0]).trans K3 all0
 obtain ⟨_, T4, Lc4, X4, hQ4, st4⟩ := own_callS (W := 1) (y := mN49) X3 hx hZ hown (oq hw 300 rfl) (oq hw 301 rfl) (oq hw 295 rfl) (oq hw 302 rfl) (by decide) (rmCd_2 l Z av0 hw [] b3 kb3 [(.int (nar .byte (c0).toInt8.toInt32)), (.int (nar .byte (c1).toInt8.toInt32))] T3.heap n0 Zk3 V3) (by decide) (by decide) (g := (mkF m 45 #[rv a0, rv a1, iv 0, iv 2, .val .null, rv b3] [(.int 2), (.ref b3), (.ref a0)])) rfl (by rw [hml]; rfl) (argsL := [(.ref b3), (.int 2)]) (rest := [(.ref a0)]) (lenOf pd__A_BI_B rfl) rfl (Y 14 rfl) rfl e3 (by decide : 1 + 0 ≤ _) (by decide : 2 + 0 ≤ _)
 obtain ⟨rfl, N4q, hh4⟩ := hQ4
 have N4 := Fr.app N3 N4q
 have e4 : T4.heap = T3.heap := hh4
 have f5 := (hC.keep K3 nin0)
 have f6 := (hE.keep K3)
 obtain ⟨T7, h7, X7, e7, W7, st7⟩ := putFN X4 hx hZ hown (oq hw 88 rfl) Via.refl e4 f5 f6 (Or.inr ⟨(oq hw 5 rfl), rfl, hnm⟩) (oq hw 2 rfl) (ty := .byte) (v' := (.int 0)) (by decide) rfl rfl (g := (mkF m 48 #[rv a0, rv a1, iv 0, iv 2, .val .null, rv b3] [(.int 0), (.ref a0)])) rfl rfl (Y 15 rfl)
 have N7 := Fr.snoc X7 N4 hge
 have Z7 : n0 ≤ h7.size := Nat.le_trans Zk3 (Nat.le_of_eq W7.size.symm)
 have K7 : Keep h0 h7 [a0] := Kk3.wr W7 (Or.inl (List.mem_of_getElem? (i := 0) rfl))
 have Fw7 := f5.same W7
 have f8 := ((hV.keep K3 nin0).other W7 (Or.inr (slot_ne (Or.inr (oq hw 4 rfl)) (Or.inr (oq hw 5 rfl)) (by decide) (t := (.array .byte)) (t' := .byte) (by decide) (by decide))))
 have f9 := (f6.wr W7)
 obtain ⟨T10, h10, X10, e10, W10, st10⟩ := putF X7 hx hZ hown (host := "") (Or.inl (oq hw 81 rfl)) Via.refl e7 f8 f9 (Or.inr ⟨(oq hw 4 rfl), rfl, hnm⟩) (oq hw 2 rfl) (ty := (.array .byte)) (by decide) rfl rfl (g := (mkF m 54 #[rv a0, rv a1, iv 0, iv 2, .val .null, rv b3] [(.ref b3), (.ref a0)])) rfl rfl (Y 18 rfl)
 have N10 := Fr.snoc X10 N7 hge
 have Z10 : n0 ≤ h10.size := Nat.le_trans Z7 (Nat.le_of_eq W10.size.symm)
 have K10 : Keep h0 h10 [a0] := K7.wr W10 (Or.inl (List.mem_of_getElem? (i := 0) rfl))
 have Fw10 := f8.same W10
 have S11 : ∀ tz, oS p e below T10 (mkF m 57 #[rv a0, rv a1, iv 0, iv 2, .val .null, rv b3] []) tz → P0 tz := fun tz kz => in0 tz (by
  refine XS.aloadN X0.here hx rfl (Y 0 rfl) rfl rfl ?_
  refine st1 _ ?_
  refine XS.iloadN X1.here hx rfl (Y 2 rfl) rfl ?_
  refine XS.ifYes X1.here hx rfl (pc0 := 5) (pc' := 27) rfl (Y 3 rfl) rfl (XT.i0_ne_t (by decide)) (by decide) (by decide) ?_
  refine st2 _ ?_
  refine XS.ifNo X2.here hx rfl (Y 5 rfl) rfl (XT.i0_eq_f hw0) ?_
  refine XS.aloadN X2.here hx rfl (Y 6 rfl) rfl rfl ?_
  refine XS.iloadN X2.here hx rfl (Y 7 rfl) rfl ?_
  refine XS.iloadN X2.here hx rfl (Y 8 rfl) rfl ?_
  refine st3 _ ?_
  show oS p e below T3 (mkF m 39 #[rv a0, rv a1, iv 0, iv 2, .val .null, .unset] [(.ref b3)]) _
  refine XS.astore X3.here hx rfl (Y 10 rfl) rfl rfl (l' := #[rv a0, rv a1, iv 0, iv 2, .val .null, rv b3]) rfl ?_
  refine XS.aloadN X3.here hx rfl (Y 11 rfl) rfl rfl ?_
  refine XS.aload X3.here hx rfl (Y 12 rfl) rfl rfl ?_
  refine XS.iloadN X3.here hx rfl (Y 13 rfl) rfl ?_
  refine st4 _ ?_
  refine st7 _ ?_
  refine XS.aloadN X7.here hx rfl (Y 16 rfl) rfl rfl ?_
  refine XS.aload X7.here hx rfl (Y 17 rfl) rfl rfl ?_
  refine st10 _ ?_
  exact kz)
 obtain ⟨fs, hr, hrun, hended, hW, hsame⟩ := X10.leave (v := none) (fun _ => rfl)
 refine ⟨_, _, pre0 _ (S11 _ ?_), hrun, hended, _, _, rfl, ?_, ⟨_, rfl⟩, hW, hsame.mono (by decide) (by decide)⟩
 · exact X10.returnOut hx Bd.returns (Y 19 rfl) hr
 have f12 := (Fw7.other W10 (Or.inr (slot_ne (Or.inr (oq hw 5 rfl)) (Or.inr (oq hw 4 rfl)) (by decide) (t := .byte) (t' := (.array .byte)) (by decide) (by decide))))
 have f13 := ((V3.other W7 (Ne.symm ne_a0_b3)).other W10 (Ne.symm ne_a0_b3))
 · show QrmSi4_2 Z a0 a1 ka wC c0 c1 h0 n0 _ T10.heap _
   rw [e10]
   exact ⟨rfl, N10, K10, f12, b3, _, Fw10, f13, sz_b3⟩
theorem D_rmSi2_2 : oL jdk_42_method_3_code [(0, .aload_n 0, 1), (1, .aload_n 1, 1), (2, .iconst 0, 1), (3, .aload_n 1, 1), (4, .arraylength, 1), (5, .aconst_null, 1), (6, .invokespecial 27, 3), (9, .return_, 1)] := by decide +kernel
theorem pd__A_CIILjava_lang_Void_V : parseMethodDescriptor "([CIILjava/lang/Void;)V" = some ⟨[(.array .char), .int, .int, (.object "java/lang/Void")], none⟩ := by decide +kernel
def QrmSi2_2 (Z : State) (a0 : Addr) (a1 : Addr) (ka : ClassId) (wC : Int32) (c0 : Int32) (c1 : Int32) (h0 : Heap) (n0 : Nat) (v : Option Value) (h : Heap) (L : List Loc) : Prop := v = none ∧ Fr n0 L ∧ Keep h0 h [a0] ∧ Fld Z h a0 "java/lang/String" "coder" "B" (.int (0 : Int32)) ∧ ∃ (b : Addr) (k : ClassId), Fld Z h a0 "java/lang/String" "value" "[B" (.ref b) ∧ Arv Z h b k .byte (2 : Int32) [(.int (nar .byte (c0).toInt8.toInt32)), (.int (nar .byte (c1).toInt8.toInt32))] (.int (0 : Int32)) ∧ h0.size ≤ b
theorem rmSi2_2 (l : Launch) (Z : State) (av0 : Array Value) (hw : ∀ d ∈ tables_1, d.before av0 Z = true) (ws : List Jvm.Cond) (a0 : Addr) (a1 : Addr) (ka : ClassId) (wC : Int32) (c0 : Int32) (c1 : Int32) (h0 : Heap) (n0 : Nat) (Z0 : n0 ≤ h0.size) (hE : Exa Z h0 a0 "java/lang/String") (hV : Fld Z h0 a0 "java/lang/String" "value" "[B" .null) (hC : Fld Z h0 a0 "java/lang/String" "coder" "B" (.int (0 : Int32))) (hge : n0 ≤ a0) (hA : Arv Z h0 a1 ka .char (2 : Int32) [(.int c0), (.int c1)] (.int (0 : Int32))) (hS : Sta Z h0 "java/lang/String" "COMPACT_STRINGS" "Z" (.int wC)) (hw0 : ¬ wC = (0 : Int32)) (hc0 : ¬ (255 : Int32) < c0) (hc1 : ¬ (255 : Int32) < c1) :
   own_Met l mN51 jdk_42_method_3_code 2 none ws ({ frames := 3, cells := 1, slots := 2, locals := 52 } : Room) #[(.ref a0), (.ref a1)] Z h0 (QrmSi2_2 Z a0 a1 ka wC c0 c1 h0 n0) := by
 refine MetFree.of_bodySF (plainFor_of_name pn_String) hisR ?_
 intro p e s m args below meth c s₁ Bd hml0 hP hK
 obtain ⟨rfl, hZ, hh⟩ := hP
 have hml : c.maxLocals = 2 := hml0
 obtain ⟨hx, hby, hown, hnm, X0, e0⟩ := own_start Bd hml0 hh
 have N0 := Fr.nil n0
 have Y := @oY _ _ _ hby D_rmSi2_2
 obtain ⟨P0, in0, pre0⟩ : ∃ P : State → Prop, (∀ tz, oS p e below s₁ (mkF m 0 #[rv a0, rv a1] []) tz → P tz) ∧ ∀ tz, P tz → Steps p.tables e below (s₁.setTop (entryFrame m #[(.ref a0), (.ref a1)] 2)) tz := ⟨_, fun _ kz => kz, fun tz kz => castTop (by first | (simp [entryFrame, mkF, argsToLocals, Value.category]; done) | rfl) kz⟩
 obtain ⟨cl1, Ar1, qk1, Sz1, Ng1, Hs1, Gs1⟩ := id hA
 obtain ⟨_, T2, Lc2, X2, hQ2, st2⟩ := own_special (W := 0) (y := mN50) X0 hx hZ rfl hown (oq hw 290 rfl) (oq hw 291 rfl) (oq hw 292 rfl) (oq hw 1 rfl) (by decide) (rmSi4_2 l Z av0 hw [] a0 a1 ka wC c0 c1 h0 n0 Z0 hE hV hC hge hA hS hw0 hc0 hc1) (by decide) (by decide) (g := (mkF m 6 #[rv a0, rv a1] [.null, (.int 2), (.int 0), (.ref a1), (.ref a0)])) rfl (by rw [hml]; rfl) (a := a0) (argsL := [(.ref a1), (.int 0), (.int 2), .null]) (rest := []) (lenOf pd__A_CIILjava_lang_Void_V rfl) rfl (Y 6 rfl) rfl e0 (by decide : 0 + 1 ≤ _) (by decide : 0 + 2 ≤ _)
 obtain ⟨rfl, N2q, K2, FC2, b2, kb2, FV2, V2, gb2⟩ := hQ2
 have N2 := Fr.app N0 N2q
 have e2 : T2.heap = T2.heap := rfl
 have ne_a0_b2 : a0 ≠ b2 := Nat.ne_of_lt (Nat.lt_of_lt_of_le hE.lt gb2)
 have ne_a1_b2 : a1 ≠ b2 := Nat.ne_of_lt (Nat.lt_of_lt_of_le hA.lt gb2)
 have ge_b2 : n0 ≤ b2 := Nat.le_trans Z0 gb2
 have sz_b2 : h0.size ≤ b2 := gb2
 have Zk2 : n0 ≤ T2.heap.size := Nat.le_trans Z0 K2.1
 have Kk2 : Keep h0 T2.heap [a0] := (Keep.refl h0 [a0]).trans K2 (allS (Or.inl (List.mem_of_getElem? (i := 0) rfl)) all0)
 have S3 : ∀ tz, oS p e below T2 (mkF m 9 #[rv a0, rv a1] []) tz → P0 tz := fun tz kz => in0 tz (by
  refine XS.aloadN X0.here hx rfl (Y 0 rfl) rfl rfl ?_
  refine XS.aloadN X0.here hx rfl (Y 1 rfl) rfl rfl ?_
  refine XT.iconstV X0.here hx rfl (0 : Int32) (Y 2 rfl) (by decide) ?_
  refine XS.aloadN X0.here hx rfl (Y 3 rfl) rfl rfl ?_
  refine X0.arraylength hx (by rw [e0]; exact Ar1.1) (State.isArrayOf_alike hZ.alike Ar1.2.1) (g := (mkF m 4 #[rv a0, rv a1] [(.ref a1), (.int 0), (.ref a1), (.ref a0)])) rfl rfl (Y 4 rfl) _ ?_
  rw [len_of Sz1 Ng1]
  refine XS.aconstNull X0.here hx rfl (Y 5 rfl) ?_
  refine st2 _ ?_
  exact kz)
 obtain ⟨fs, hr, hrun, hended, hW, hsame⟩ := X2.leave (v := none) (fun _ => rfl)
 refine ⟨_, _, pre0 _ (S3 _ ?_), hrun, hended, _, _, rfl, ?_, ⟨_, rfl⟩, hW, hsame.mono (by decide) (by decide)⟩
 · exact X2.returnOut hx Bd.returns (Y 7 rfl) hr
 · show QrmSi2_2 Z a0 a1 ka wC c0 c1 h0 n0 _ T2.heap _
   rw [e2]
   exact ⟨rfl, N2, Kk2, FC2, b2, _, FV2, V2, sz_b2⟩
theorem own_wS {Z : State} {av0 : Array Value} (hw : ∀ d ∈ tables_1, d.before av0 Z = true) : ∀ a ∈ Bundle.stringAtoms, a.before av0 Z = true := fun d hd => hw d (List.contains_iff_mem.mp (List.all_eq_true.mp (by decide +kernel : (Bundle.stringAtoms.all fun q => tables_1.contains q) = true) d hd))
theorem own_specialH {p : Program} {l : Launch} {e : Env} {R : Room} {s : State} {m : MethodId} {args : Array Value} {below : List Frame} {meth : Method} {c : Code} {T : State} {locs : List Loc} {cells slots : Nat} {Z : State} {a0 : Array Value} {h : Heap} {EL : List (String × Nat)} {vm0 : Vm}
    {own : String} {index : Nat} {y : MethodName} {bytes : ByteArray} {maxL : Nat} {rm : Room} {W : Nat} {as' : Array Value} {Q : Option Value → Heap → List Loc → Prop}
    (X : Stand p l e R (s.setVm vm0) m args below meth c T locs cells slots) (hx : p.tables.exec = Jvm.exec) (hZ : Z.Warmed39 vm0) (hy1 : y.name = "<init>") (hown : vm0.findClass own = some m.cls) (hlink : (Cond.methodLink own index y).before a0 Z = true) (hinst : (Cond.instanceMethod y).before a0 Z = true)
    (hcode : (Cond.code y bytes maxL none).before a0 Z = true) (hinit : (Cond.initialized y.cls).before a0 Z = true) (hy : y.cls ≠ "java/lang/invoke/MethodHandle" ∧ y.cls ≠ "java/lang/invoke/VarHandle")
    (hM : MetFree l y (head1 [Cond.code y bytes maxL none] rm) (fun a U => a = as' ∧ Z.Warmed39 U.vm ∧ U.heap = h ∧ CHv Z EL U.vm h) (fun _ _ _ _ _ => True) (fun _ U o U' => ∃ v L, o = .returned v ∧ Q v U'.heap L ∧ CHr Z EL U.vm U.heap U'.vm U'.heap ∧ ReturnedEndW U o U' L rm.cells rm.slots))
    (hf : rm.frames + 1 ≤ R.frames) (hl : W + (maxL + 11) + rm.locals ≤ R.locals) (hEL : EW Z a0 EL) (H : CHv Z EL vm0 h) {k0 : Nat} (hS : s.Since vm0 k0) (hk : k0 ≤ h.size) {g : JFrame} (hg : g.method = m) (hsize : g.locals.size = c.maxLocals) {a : Addr} {argsL rest : List Value} (hlen : ∀ sig, parseMethodDescriptor y.desc = some sig → argsL.length = sig.parameters.length)
    (hstack : g.stack = argsL.reverse ++ .ref a :: rest) (hdg : decode c.code g.pc = .ok (.invokespecial index, 3)) (has : (.ref a :: argsL).toArray = as') (eT : T.heap = h) (hc : cells + rm.cells ≤ R.cells) (hs : slots + rm.slots ≤ R.slots) (hW : 2 * g.monitorRoom + (rest.map fun v => v.category).sum ≤ W := by show 2 * 0 + _ ≤ _; exact Nat.le_of_eq rfl) :
    ∃ (v : Option Value) (T' : State) (L : List Loc), Stand p l e R (s.setVm T'.vm) m args below meth c T' (locs ++ L) (cells + rm.cells) (slots + rm.slots) ∧ s.Since T'.vm T'.heap.size ∧ Z.Warmed39 (s.setVm T'.vm).vm ∧ (s.setVm T'.vm).vm.findClass own = some m.cls ∧ CHr Z EL vm0 h T'.vm T'.heap ∧ Q v T'.heap L ∧ ∀ target, Steps p.tables e below (T'.setTop { g with pc := g.pc + 3, stack := v.toList ++ rest }) target → Steps p.tables e below (T.setTop g) target := by
  have hZ' : Z.Warmed39 (s.setVm vm0).vm := hZ
  obtain ⟨v, _, ⟨T3, L3, k3, n3⟩, -, X3, hS3, hgr3, ⟨Lc3, hQ3, l3, y3, z3, r3⟩, st3⟩ := X.specialBackS hx hy1 hown (mvT hZ' hlink) (mvT hZ' hinst) (mvT hZ' hcode) hy (backOfSH (W := W) hM hZ hcode hinit hf hl hEL H) hg hsize (Steps.refl _) hlen hstack hW hdg (fun _ _ => ⟨has, eT, hc, hs⟩)
  dsimp only [Pt.U, Pt.locs, Pt.cells, Pt.slots] at X3 l3 y3 z3 st3 hQ3 hS3 hgr3 r3
  subst l3 y3 z3
  refine ⟨v, T3, Lc3, X3, hS.trans hS3 (Nat.le_trans hk (by rw [← eT]; exact hgr3)), State.Warmed39.trans (t := s.setVm vm0) hZ hS3.1, ?_, r3, hQ3, fun target k => st3.trans k⟩
  have q := hS3.1.alike.findClass (name := own)
  show T3.vm.findClass own = _
  rw [q]; exact hown
theorem own_virtualH {p : Program} {l : Launch} {e : Env} {R : Room} {s : State} {m : MethodId} {args : Array Value} {below : List Frame} {meth : Method} {c : Code} {T : State} {locs : List Loc} {cells slots : Nat} {Z : State} {a0 : Array Value} {h : Heap} {EL : List (String × Nat)} {vm0 : Vm}
    {own : String} {index : Nat} {y z : MethodName} {bytes : ByteArray} {maxL : Nat} {ret : Option FieldType} {rm : Room} {W : Nat} {as' : Array Value} {Q : Option Value → Heap → List Loc → Prop}
    (X : Stand p l e R (s.setVm vm0) m args below meth c T locs cells slots) (hx : p.tables.exec = Jvm.exec) (hZ : Z.Warmed39 vm0) {C : String} (hown : vm0.findClass own = some m.cls) (hlink : (Cond.methodLink own index y).before a0 Z = true) (hdecl : (Cond.declares y).before a0 Z = true) (hnf : NotFace (s.setVm vm0) y) (hsel : (Cond.selects C y z).before a0 Z = true) (hinst : (Cond.instanceMethod z).before a0 Z = true)
    (hcode : (Cond.code z bytes maxL ret).before a0 Z = true) (hinit : (Cond.initialized z.cls).before a0 Z = true) (hy : y.cls ≠ "java/lang/invoke/MethodHandle" ∧ y.cls ≠ "java/lang/invoke/VarHandle")
    (hM : MetFree l z (head1 [Cond.code z bytes maxL ret] rm) (fun a U => a = as' ∧ Z.Warmed39 U.vm ∧ U.heap = h ∧ CHv Z EL U.vm h) (fun _ _ _ _ _ => True) (fun _ U o U' => ∃ v L, o = .returned v ∧ Q v U'.heap L ∧ CHr Z EL U.vm U.heap U'.vm U'.heap ∧ ReturnedEndW U o U' L rm.cells rm.slots))
    (hf : rm.frames + 1 ≤ R.frames) (hl : W + (maxL + 11) + rm.locals ≤ R.locals) (hEL : EW Z a0 EL) (H : CHv Z EL vm0 h) {k0 : Nat} (hS : s.Since vm0 k0) (hk : k0 ≤ h.size) {a : Addr} (E : Exa Z h a C) {g : JFrame} (hg : g.method = m) (hsize : g.locals.size = c.maxLocals) {argsL rest : List Value} (hlen : ∀ sig, parseMethodDescriptor y.desc = some sig → argsL.length = sig.parameters.length)
    (hstack : g.stack = argsL.reverse ++ .ref a :: rest) (hdg : decode c.code g.pc = .ok (.invokevirtual index, 3)) (has : (.ref a :: argsL).toArray = as') (eT : T.heap = h) (hc : cells + rm.cells ≤ R.cells) (hs : slots + rm.slots ≤ R.slots) (hW : 2 * g.monitorRoom + (rest.map fun v => v.category).sum ≤ W := by show 2 * 0 + _ ≤ _; exact Nat.le_of_eq rfl) :
    ∃ (v : Option Value) (T' : State) (L : List Loc), Stand p l e R (s.setVm T'.vm) m args below meth c T' (locs ++ L) (cells + rm.cells) (slots + rm.slots) ∧ s.Since T'.vm T'.heap.size ∧ Z.Warmed39 (s.setVm T'.vm).vm ∧ (s.setVm T'.vm).vm.findClass own = some m.cls ∧ CHr Z EL vm0 h T'.vm T'.heap ∧ Q v T'.heap L ∧ ∀ target, Steps p.tables e below (T'.setTop { g with pc := g.pc + 3, stack := v.toList ++ rest }) target → Steps p.tables e below (T.setTop g) target := by
  have hZ' : Z.Warmed39 (s.setVm vm0).vm := hZ
  obtain ⟨cq, kq, qa, qb, qc⟩ := isOf hZ' eT E
  obtain ⟨v, _, ⟨T3, L3, k3, n3⟩, -, X3, hS3, hgr3, ⟨Lc3, hQ3, l3, y3, z3, r3⟩, st3⟩ := X.virtualBackS hx hown (mvT hZ' hlink) (mvT hZ' hdecl) hnf (mvT hZ' hsel) (mvT hZ' hinst) hy (backOfSH (W := W) hM hZ hcode hinit hf hl hEL H) qa qc hg hsize (Steps.refl _) hlen hstack hW hdg (fun _ _ => ⟨has, eT, hc, hs⟩)
  dsimp only [Pt.U, Pt.locs, Pt.cells, Pt.slots] at X3 l3 y3 z3 st3 hQ3 hS3 hgr3 r3
  subst l3 y3 z3
  refine ⟨v, T3, Lc3, X3, hS.trans hS3 (Nat.le_trans hk (by rw [← eT]; exact hgr3)), State.Warmed39.trans (t := s.setVm vm0) hZ hS3.1, ?_, r3, hQ3, fun target k => st3.trans k⟩
  have q := hS3.1.alike.findClass (name := own)
  show T3.vm.findClass own = _
  rw [q]; exact hown
theorem own_newX {p : Program} {l : Launch} {e : Env} {R : Room} {s : State} {m : MethodId} {args : Array Value} {below : List Frame} {meth : Method} {c : Code} {T : State} {locs : List Loc} {cells slots : Nat} {Z : State} {a0 : Array Value} {h : Heap}
    (X : Stand p l e R s m args below meth c T locs cells slots) (hx : p.tables.exec = Jvm.exec) (hZ : Z.Warmed39 s.vm) (w : (Cond.arrayClass .byte).before a0 Z = true) (eT : T.heap = h) {g : JFrame} (hg : g.method = m) (hd : decode c.code g.pc = .ok (.newarray .byte, 2)) {n : Int32} {rest : List Value} (hs : g.stack = .int n :: rest)
    (hn : ¬ n < 0) {cap : Nat} (hcap : n.toNatClampNeg ≤ cap) (hb : cap * 8 ≤ 536870912) (hc : cells + 1 ≤ R.cells) (hl : slots + cap ≤ R.slots) :
    ∃ T' h' cA, Stand p l e R s m args below meth c T' locs (cells + 1) (slots + cap) ∧ T'.heap = h' ∧ Ext h h' ∧ Arr Z h' h.size (newA cA .byte n) .byte ∧ Exa Z h' h.size "[B" ∧
      ∀ target, Steps p.tables e below (T'.setTop { g with pc := g.pc + 2, stack := .ref h.size :: rest }) target → Steps p.tables e below (T.setTop g) target := by
  obtain ⟨cA, kA, comp, h1, h2, h3, X', st⟩ := X.newarrayPrim (atype := .byte) hx (mvA hZ w) hg hd hs hn (Nat.le_trans (Nat.mul_le_mul hcap (by decide : componentBytes (newarray.typeOf .byte) ≤ 8)) hb) hc (by omega)
  rw [show "[" ++ (newarray.typeOf .byte).toString = "[B" from by decide, hZ.alike.findClass] at h1
  obtain ⟨kZ, z1, -⟩ := Vm.findClass_spec h1
  obtain ⟨k', z2, z3⟩ := hZ.alike.2.2 _ _ z1
  cases h2.symm.trans z2
  have kz : kZ.kind = .array comp .byte := by have q := h3; rw [z3] at q; exact q
  subst eT
  have hN : (T.heap.push (newA cA .byte n))[T.heap.size]? = some (newA cA .byte n) := by simp
  refine ⟨_, _, cA, X'.more (Nat.le_refl _) (by omega), rfl, ⟨by show T.heap.size ≤ (T.heap.push _).size; simp, fun a c h => ?_⟩, ⟨hN, ⟨(fun q z => by cases z), kZ, z1, comp, kz⟩, (fun z => by cases z)⟩, ⟨newA cA .byte n, kZ, hN, h1, z1, rfl, (fun z => by rw [kz] at z; cases z)⟩, st⟩
  show (T.heap.push _)[a]? = _
  rw [Array.getElem?_push_lt (Array.getElem?_eq_some_iff.mp h).1]; exact (Array.getElem?_eq_getElem _).symm.trans h
theorem own_fitC {Z : State} {h : Heap} {a : Addr} {cl : Cell} (A : Arr Z h a cl .byte) (q : ∀ (i : Nat) (v : Value), cl.slots[i]? = some v → fits .byte v = true) : FitC Z cl := fun i v hv => by
  obtain ⟨hs, k, hk, comp, hkind⟩ := A.2.1
  have e : Z.slotType? cl.cls .none i = some .byte := by simp [State.slotType?, hk, hkind]
  simp only [State.fitsSlot, e]; exact q i v hv
theorem own_Ab.fitC {Z : State} {h : Heap} {a : Addr} {n : Nat} {g : Nat → Int32} {cl : Cell} (F : own_Ab Z h a n g) (hc : h[a]? = some cl) (hn : n < 2147483648) : Arr Z h a cl .byte ∧ FitC Z cl ∧ cl.slots.size = n := by
  obtain ⟨k, c, A, q1, S, q3, H, G⟩ := F
  have e := Option.some.inj (hc.symm.trans A.1)
  subst e
  rw [own_nc hn] at S
  refine ⟨A, own_fitC A (fun i v hv => ?_), S⟩
  have hi := (Array.getElem?_eq_some_iff.mp hv).1
  have q := H i hi
  rw [hv] at q
  rw [Option.some.inj q]; exact G i hi
theorem own_sor {Z : State} {EL : List (String × Nat)} {vm : Vm} {h : Heap} {b d : Addr} (q : b = d ∨ h.size ≤ b) (S : Safe Z EL vm h d) : Safe Z EL vm h b := by
  rcases q with q | q
  · rw [q]; exact S
  · exact Safe.new q
def own_li (x : List Int32) (i : Nat) : Int32 := x.getD i 0
theorem own_cloned {Z : State} {h : Heap} {a b : Addr} {n : Nat} {g : Nat → Int32} {cl : Cell} (F : own_Ab Z h a n g) (hc : h[a]? = some cl) {h' : Heap} (A : Arr Z h' b (cloneOf cl) .byte) : own_Ab Z h' b n g := by
  obtain ⟨k, c, A0, q1, S, q3, H, G⟩ := F
  have e := Option.some.inj (hc.symm.trans A0.1)
  subst e
  exact ⟨_, _, A, rfl, S, q3, H, G⟩
theorem own_EW {Z : State} {av0 : Array Value} (hw : ∀ d ∈ tables_1, d.before av0 Z = true) : EW Z av0 consts_1 := (EW.cons (hw _ (own_w 17 rfl)) (by decide) (EW.cons (hw _ (own_w 26 rfl)) (by decide) (EW.cons (hw _ (own_w 65 rfl)) (by decide) (EW.cons (hw _ (own_w 116 rfl)) (by decide) (EW.cons (hw _ (own_w 162 rfl)) (by decide) (EW.cons (hw _ (own_w 182 rfl)) (by decide) (EW.cons (hw _ (own_w 183 rfl)) (by decide) (EW.cons (hw _ (own_w 0 rfl)) (by decide) (EW.cons (hw _ (own_w 220 rfl)) (by decide) (EW.cons (hw _ (own_w 251 rfl)) (by decide) (EW.cons (hw _ (own_w 279 rfl)) (by decide) (EW.cons (hw _ (own_w 280 rfl)) (by decide) (EW.cons (hw _ (own_w 281 rfl)) (by decide) EW.nil)))))))))))))
def own_t0 : Nat → Int32 := own_li [Jvm.Lit.byteI (109 : Nat).toUInt16, Jvm.Lit.byteI (101 : Nat).toUInt16, Jvm.Lit.byteI (115 : Nat).toUInt16, Jvm.Lit.byteI (115 : Nat).toUInt16, Jvm.Lit.byteI (97 : Nat).toUInt16, Jvm.Lit.byteI (103 : Nat).toUInt16, Jvm.Lit.byteI (101 : Nat).toUInt16, Jvm.Lit.byteI (32 : Nat).toUInt16]
theorem own_e0 : (∀ c ∈ ("message " : String).toList, c.toNat < 256) ∧ ("message " : String).toList.map (fun c => Value.int (Jvm.Lit.byteI c.toNat.toUInt16)) = own_vl 8 own_t0 := ⟨by decide, rfl⟩
def own_t1 : Nat → Int32 := own_li [Jvm.Lit.byteI (32 : Nat).toUInt16, Jvm.Lit.byteI (40 : Nat).toUInt16, Jvm.Lit.byteI (97 : Nat).toUInt16, Jvm.Lit.byteI (116 : Nat).toUInt16, Jvm.Lit.byteI (116 : Nat).toUInt16, Jvm.Lit.byteI (101 : Nat).toUInt16, Jvm.Lit.byteI (109 : Nat).toUInt16, Jvm.Lit.byteI (112 : Nat).toUInt16, Jvm.Lit.byteI (116 : Nat).toUInt16, Jvm.Lit.byteI (32 : Nat).toUInt16]
theorem own_e1 : (∀ c ∈ (" (attempt " : String).toList, c.toNat < 256) ∧ (" (attempt " : String).toList.map (fun c => Value.int (Jvm.Lit.byteI c.toNat.toUInt16)) = own_vl 10 own_t1 := ⟨by decide, rfl⟩
def own_t2 : Nat → Int32 := own_li [Jvm.Lit.byteI (44 : Nat).toUInt16, Jvm.Lit.byteI (32 : Nat).toUInt16, Jvm.Lit.byteI (100 : Nat).toUInt16, Jvm.Lit.byteI (117 : Nat).toUInt16, Jvm.Lit.byteI (101 : Nat).toUInt16, Jvm.Lit.byteI (32 : Nat).toUInt16]
theorem own_e2 : (∀ c ∈ (", due " : String).toList, c.toNat < 256) ∧ (", due " : String).toList.map (fun c => Value.int (Jvm.Lit.byteI c.toNat.toUInt16)) = own_vl 6 own_t2 := ⟨by decide, rfl⟩
def own_t3 : Nat → Int32 := own_li [Jvm.Lit.byteI (44 : Nat).toUInt16, Jvm.Lit.byteI (32 : Nat).toUInt16]
theorem own_e3 : (∀ c ∈ (", " : String).toList, c.toNat < 256) ∧ (", " : String).toList.map (fun c => Value.int (Jvm.Lit.byteI c.toNat.toUInt16)) = own_vl 2 own_t3 := ⟨by decide, rfl⟩
def own_t4 : Nat → Int32 := own_li [Jvm.Lit.byteI (32 : Nat).toUInt16, Jvm.Lit.byteI (98 : Nat).toUInt16, Jvm.Lit.byteI (121 : Nat).toUInt16, Jvm.Lit.byteI (116 : Nat).toUInt16, Jvm.Lit.byteI (101 : Nat).toUInt16, Jvm.Lit.byteI (115 : Nat).toUInt16, Jvm.Lit.byteI (41 : Nat).toUInt16]
theorem own_e4 : (∀ c ∈ (" bytes)" : String).toList, c.toNat < 256) ∧ (" bytes)" : String).toList.map (fun c => Value.int (Jvm.Lit.byteI c.toNat.toUInt16)) = own_vl 7 own_t4 := ⟨by decide, rfl⟩
def own_t5 : Nat → Int32 := own_li []
theorem own_e5 : (∀ c ∈ ("" : String).toList, c.toNat < 256) ∧ ("" : String).toList.map (fun c => Value.int (Jvm.Lit.byteI c.toNat.toUInt16)) = own_vl 0 own_t5 := ⟨by decide, rfl⟩
def own_t6 : Nat → Int32 := own_li [Jvm.Lit.byteI (105 : Nat).toUInt16, Jvm.Lit.byteI (100 : Nat).toUInt16]
theorem own_e6 : (∀ c ∈ ("id" : String).toList, c.toNat < 256) ∧ ("id" : String).toList.map (fun c => Value.int (Jvm.Lit.byteI c.toNat.toUInt16)) = own_vl 2 own_t6 := ⟨by decide, rfl⟩
def own_t7 : Nat → Int32 := own_li [Jvm.Lit.byteI (98 : Nat).toUInt16, Jvm.Lit.byteI (111 : Nat).toUInt16, Jvm.Lit.byteI (100 : Nat).toUInt16, Jvm.Lit.byteI (121 : Nat).toUInt16]
theorem own_e7 : (∀ c ∈ ("body" : String).toList, c.toNat < 256) ∧ ("body" : String).toList.map (fun c => Value.int (Jvm.Lit.byteI c.toNat.toUInt16)) = own_vl 4 own_t7 := ⟨by decide, rfl⟩
theorem D_rmRN : oL jdk_31_method_11_code [(0, .aload_n 0, 1), (1, .ifnonnull 12, 3), (13, .aload_n 0, 1), (14, .areturn, 1)] := by decide +kernel
theorem pn_Objects : plainName "java/util/Objects" = true := by first | (simp [plainName, overriddenIn]; done) | decide +kernel
def QrmRN (Z : State) (ra : Addr) (rb : Addr) (h0 : Heap) (n0 : Nat) (v : Option Value) (h : Heap) (L : List Loc) : Prop := v = some (.ref ra) ∧ Fr n0 L ∧ h = h0
theorem rmRN (l : Launch) (Z : State) (av0 : Array Value) (hw : ∀ d ∈ tables_1, d.before av0 Z = true) (ws : List Jvm.Cond) (ra : Addr) (rb : Addr) (h0 : Heap) (n0 : Nat) (Z0 : n0 ≤ h0.size)  :
   own_Met l mN52 jdk_31_method_11_code 2 (some (.object "java/lang/Object")) ws ({ frames := 0, cells := 0, slots := 0, locals := 0 } : Room) #[(.ref ra), (.ref rb)] Z h0 (QrmRN Z ra rb h0 n0) := by
 refine MetFree.of_bodySF (plainFor_of_name pn_Objects) hisR ?_
 intro p e s m args below meth c s₁ Bd hml0 hP hK
 obtain ⟨rfl, hZ, hh⟩ := hP
 have hml : c.maxLocals = 2 := hml0
 obtain ⟨hx, hby, hown, hnm, X0, e0⟩ := own_start Bd hml0 hh
 have N0 := Fr.nil n0
 have Y := @oY _ _ _ hby D_rmRN
 obtain ⟨P0, in0, pre0⟩ : ∃ P : State → Prop, (∀ tz, oS p e below s₁ (mkF m 0 #[rv ra, rv rb] []) tz → P tz) ∧ ∀ tz, P tz → Steps p.tables e below (s₁.setTop (entryFrame m #[(.ref ra), (.ref rb)] 2)) tz := ⟨_, fun _ kz => kz, fun tz kz => castTop (by first | (simp [entryFrame, mkF, argsToLocals, Value.category]; done) | rfl) kz⟩
 have S1 : ∀ tz, oS p e below s₁ (mkF m 14 #[rv ra, rv rb] [(.ref ra)]) tz → P0 tz := fun tz kz => in0 tz (by
  refine XS.aloadN X0.here hx rfl (Y 0 rfl) rfl rfl ?_
  refine XT.ifnonnullYes X0.here hx rfl (pc0 := 1) (pc' := 13) rfl (Y 1 rfl) rfl (by decide) (by decide) ?_
  refine XS.aloadN X0.here hx rfl (Y 2 rfl) rfl rfl ?_
  exact kz)
 obtain ⟨fs, hr, hrun, hended, hW, hsame⟩ := X0.leave (v := some (.ref ra)) (fun h => by rw [Bd.returns] at h; cases h)
 refine ⟨_, _, pre0 _ (S1 _ ?_), hrun, hended, _, _, rfl, ?_, ⟨_, rfl⟩, hW, hsame.mono (by decide) (by decide)⟩
 · jvm_step X0.here [X0.here.top, hx, (Y 3 rfl), X0.method', Bd.returns, Value.isRef, FieldType.isReference]
   first | (intro acts; rw [hr _ acts rfl rfl rfl]) | rw [hr _ _ rfl rfl rfl]
   exact Steps.refl _
 · show QrmRN Z ra rb h0 n0 _ s₁.heap _
   rw [e0]
   exact ⟨rfl, N0, rfl⟩
theorem D_rmMI : oL prog_13_method_1_code [(0, .aload_n 0, 1), (1, .invokespecial 1, 3), (4, .aload_n 0, 1), (5, .aload_n 1, 1), (6, .ldc 7, 2), (8, .invokestatic 9, 3), (11, .checkcast 15, 3), (14, .putfield 17, 3), (17, .aload_n 0, 1), (18, .aload_n 2, 1), (19, .ldc 23, 2), (21, .invokestatic 9, 3), (24, .checkcast 25, 3), (27, .invokevirtual 27, 3), (30, .checkcast 25, 3), (33, .putfield 31, 3), (36, .aload_n 0, 1), (37, .iload_n 3, 1), (38, .putfield 34, 3), (41, .aload_n 0, 1), (42, .lload 4, 2), (44, .putfield 38, 3), (47, .return_, 1)] := by decide +kernel
theorem pn_Message : plainName "com/example/campofelice/campofelice/Message" = true := by first | (simp [plainName, overriddenIn]; done) | decide +kernel
theorem pd__Ljava_lang_Object_Ljava_lang_String_Ljava_lang_Object_ : parseMethodDescriptor "(Ljava/lang/Object;Ljava/lang/String;)Ljava/lang/Object;" = some ⟨[(.object "java/lang/Object"), (.object "java/lang/String")], some (.object "java/lang/Object")⟩ := by decide +kernel
def QrmMI (Z : State) (a0 : Addr) (sa : Addr) (sb : Addr) (nt : Nat) (gt : Nat → Int32) (bb : Addr) (nb : Nat) (gB : Nat → Int32) (y : Int32) (dt : Int64) (h0 : Heap) (n0 : Nat) (v : Option Value) (h : Heap) (L : List Loc) : Prop := v = none ∧ Fr n0 L ∧ ∃ bc : Addr, Keep h0 h [a0] ∧ Fld Z h a0 "com/example/campofelice/campofelice/Message" "mId" "Ljava/lang/String;" (.ref sa) ∧ Fld Z h a0 "com/example/campofelice/campofelice/Message" "mBody" "[B" (.ref bc) ∧ Fld Z h a0 "com/example/campofelice/campofelice/Message" "mAttempt" "I" (.int y) ∧ Fld Z h a0 "com/example/campofelice/campofelice/Message" "mDueTime" "J" (.long dt) ∧ own_Ab Z h bc nb gB ∧ h0.size ≤ bc
theorem rmMI (l : Launch) (Z : State) (av0 : Array Value) (hw : ∀ d ∈ tables_1, d.before av0 Z = true) (ws : List Jvm.Cond) (a0 : Addr) (sa : Addr) (sb : Addr) (nt : Nat) (gt : Nat → Int32) (bb : Addr) (nb : Nat) (gB : Nat → Int32) (y : Int32) (dt : Int64) (h0 : Heap) (n0 : Nat) (Z0 : n0 ≤ h0.size) (hE : Exa Z h0 a0 "com/example/campofelice/campofelice/Message") (hmId : Fld Z h0 a0 "com/example/campofelice/campofelice/Message" "mId" "Ljava/lang/String;" .null) (hmBo : Fld Z h0 a0 "com/example/campofelice/campofelice/Message" "mBody" "[B" .null) (hmAt : Fld Z h0 a0 "com/example/campofelice/campofelice/Message" "mAttempt" "I" (.int (0 : Int32))) (hmDu : Fld Z h0 a0 "com/example/campofelice/campofelice/Message" "mDueTime" "J" (.long (0 : Int64))) (hga : n0 ≤ a0) (hT : own_Str Z h0 sa sb nt gt) (hBy : own_Ab Z h0 bb nb gB) (hEb : Exa Z h0 bb "[B") (hn1 : sa ≠ a0) (hn2 : sb ≠ a0) (hn3 : bb ≠ a0) (hnb : nb ≤ 15) :
   MetFree l mN53 (head1 (Jvm.Cond.code mN53 prog_13_method_1_code 6 none :: ws) ({ frames := 1, cells := 5, slots := 47, locals := 15 } : Room)) (fun aU U => aU = #[(.ref a0), (.ref sa), (.ref bb), (.int y), (.long dt)] ∧ Z.Warmed39 U.vm ∧ U.heap = h0 ∧ CHv Z consts_1 U.vm h0) (fun _ _ _ _ _ => True) (fun _ U oU U' => ∃ vU LU, oU = .returned vU ∧ QrmMI Z a0 sa sb nt gt bb nb gB y dt h0 n0 vU U'.heap LU ∧ CHr Z consts_1 U.vm U.heap U'.vm U'.heap ∧ ReturnedEndW U oU U' LU ({ frames := 1, cells := 5, slots := 47, locals := 15 } : Room).cells ({ frames := 1, cells := 5, slots := 47, locals := 15 } : Room).slots) := by
 refine MetFree.of_bodySF (plainFor_of_name pn_Message) hisR ?_
 intro p e s m args below meth c s₁ Bd hml0 hP hK
 obtain ⟨rfl, hZ, hh, hI⟩ := hP
 have hml : c.maxLocals = 6 := hml0
 obtain ⟨hx, hby, hown, hnm, X0, e0⟩ := own_start Bd hml0 hh
 have N0 := Fr.nil n0
 have Y := @oY _ _ _ hby D_rmMI
 obtain ⟨P0, in0, pre0⟩ : ∃ P : State → Prop, (∀ tz, oS p e below s₁ (mkF m 0 #[rv a0, rv sa, rv bb, iv y, .val (.long dt), .second] []) tz → P tz) ∧ ∀ tz, P tz → Steps p.tables e below (s₁.setTop (entryFrame m #[(.ref a0), (.ref sa), (.ref bb), (.int y), (.long dt)] 6)) tz := ⟨_, fun _ kz => kz, fun tz kz => castTop (by first | (simp [entryFrame, mkF, argsToLocals, Value.category]; done) | rfl) kz⟩
 obtain ⟨T1, X1, e1, st1⟩ := initO X0 hx hZ hown (oq hw 14 rfl) (oq hw 15 rfl) (oq hw 16 rfl) e0 (g := (mkF m 1 #[rv a0, rv sa, rv bb, iv y, .val (.long dt), .second] [(.ref a0)])) rfl (by rw [hml]; rfl) rfl (Y 1 rfl) (by decide) (W := 0) (by show 2 * 0 + _ ≤ _; exact Nat.le_of_eq rfl) (by decide)
 have S3 : ∀ tz, oS p e below T1 (mkF m 6 #[rv a0, rv sa, rv bb, iv y, .val (.long dt), .second] [(.ref sa), (.ref a0)]) tz → P0 tz := fun tz kz => in0 tz (by
  refine XS.aloadN X0.here hx rfl (Y 0 rfl) rfl rfl ?_
  refine st1 _ ?_
  refine XS.aloadN X1.here hx rfl (Y 2 rfl) rfl rfl ?_
  refine XS.aloadN X1.here hx rfl (Y 3 rfl) rfl rfl ?_
  exact kz)
 obtain ⟨a2, T2, h2, ks2, b2, k2, X2, e2, E2, hS2, hk2, hZ, hown, Ea2, Fc2, Fv2, Av2, la2, lb2, R2, Li2, sn2, st2⟩ := ldcCH (s := s) (vm0 := s.vm) (show Stand p l e _ (s.setVm s.vm) m _ below meth c _ _ _ _ from X1) hx hZ hown (oq hw 17 rfl) (own_wS hw) e1 ((State.WarmedH.refl s).since 0) (Nat.zero_le _) (own_EW hw) (List.mem_of_getElem? (i := 0) rfl : _ ∈ consts_1) (CHr.refl hI).1 (vs := own_vl 2 own_t6) (z := own_n 2) own_e6 (own_nge (by decide)) (by rw [own_vlen]; exact own_nc (by decide)) (g := (mkF m 6 #[rv a0, rv sa, rv bb, iv y, .val (.long dt), .second] [(.ref sa), (.ref a0)])) rfl (Y 4 rfl) (n := 8) (by decide) (by decide) (by decide) (by decide)
 have Rr2 := (CHr.refl hI).trans R2
 have Z2 : n0 ≤ h2.size := Nat.le_trans Z0 E2.1
 have K2 : Keep h0 h2 [a0] := (Keep.refl h0 [a0]).ext E2
 obtain ⟨_, T4, Lc4, X4, hQ4, st4⟩ := own_callS (W := 1) (y := mN52) X2 hx hZ hown (oq hw 18 rfl) (oq hw 19 rfl) (oq hw 20 rfl) (oq hw 21 rfl) (by decide) (rmRN l Z av0 hw [] sa a2 h2 n0 Z2 ) (by decide) (by decide) (g := (mkF m 8 #[rv a0, rv sa, rv bb, iv y, .val (.long dt), .second] [(.ref a2), (.ref sa), (.ref a0)])) rfl (by rw [hml]; rfl) (argsL := [(.ref sa), (.ref a2)]) (rest := [(.ref a0)]) (lenOf pd__Ljava_lang_Object_Ljava_lang_String_Ljava_lang_Object_ rfl) rfl (Y 5 rfl) rfl e2 (by decide : 2 + 0 ≤ _) (by decide : 12 + 0 ≤ _)
 obtain ⟨rfl, N4q, hh4⟩ := hQ4
 have N4 := Fr.app N0 N4q
 have e4 : T4.heap = h2 := hh4
 have f5 := (hT.E.ext E2)
 obtain ⟨T6, X6, e6, st6⟩ := castY X4 hx hZ hown (oq hw 22 rfl) e4 (Ins.self f5) (g := (mkF m 11 #[rv a0, rv sa, rv bb, iv y, .val (.long dt), .second] [(.ref sa), (.ref a0)])) rfl rfl (Y 6 rfl)
 have f7 := (hmId.ext E2)
 have f8 := (hE.ext E2)
 obtain ⟨T9, h9, X9, e9, W9, st9⟩ := putF X6 hx hZ hown (host := "") (Or.inl (oq hw 24 rfl)) Via.refl e6 f7 f8 (Or.inr ⟨(oq hw 25 rfl), rfl, hnm⟩) (oq hw 9 rfl) (ty := (.object "java/lang/String")) (by decide) rfl rfl (g := (mkF m 14 #[rv a0, rv sa, rv bb, iv y, .val (.long dt), .second] [(.ref sa), (.ref a0)])) rfl rfl (Y 7 rfl)
 have Rr10 := Rr2.trans (CHr.wr W9 (Safe.exa hZ.alike f8 (by decide) (by decide)) Rr2.1)
 have N9 := Fr.snoc X9 N4 hga
 have Z9 : n0 ≤ h9.size := Nat.le_trans Z2 (Nat.le_of_eq W9.size.symm)
 have K9 : Keep h0 h9 [a0] := K2.wr W9 (Or.inl (List.mem_of_getElem? (i := 0) rfl))
 have Fw9 := f7.same W9
 have S12 : ∀ tz, oS p e below T9 (mkF m 19 #[rv a0, rv sa, rv bb, iv y, .val (.long dt), .second] [(.ref bb), (.ref a0)]) tz → P0 tz := fun tz kz => S3 tz (by
  refine st2 _ ?_
  refine st4 _ ?_
  refine st6 _ ?_
  refine st9 _ ?_
  refine XS.aloadN X9.here hx rfl (Y 8 rfl) rfl rfl ?_
  refine XS.aloadN X9.here hx rfl (Y 9 rfl) rfl rfl ?_
  show oS p e below T9 (mkF m 19 #[rv a0, rv sa, rv bb, iv y, .val (.long dt), .second] [(.ref bb), (.ref a0)]) _
  exact kz)
 obtain ⟨a11, T11, h11, ks11, b11, k11, X11, e11, E11, hS11, hk11, hZ, hown, Ea11, Fc11, Fv11, Av11, la11, lb11, R11, Li11, sn11, st11⟩ := ldcCH (s := s) (vm0 := T2.vm) (show Stand p l e _ (s.setVm T2.vm) m _ below meth c _ _ _ _ from X9) hx hZ hown (oq hw 26 rfl) (own_wS hw) e9 hS2 (Nat.le_trans hk2 (Nat.le_of_eq W9.size.symm)) (own_EW hw) (List.mem_of_getElem? (i := 1) rfl : _ ∈ consts_1) Rr10.1 (vs := own_vl 4 own_t7) (z := own_n 4) own_e7 (own_nge (by decide)) (by rw [own_vlen]; exact own_nc (by decide)) (g := (mkF m 19 #[rv a0, rv sa, rv bb, iv y, .val (.long dt), .second] [(.ref bb), (.ref a0)])) rfl (Y 10 rfl) (n := 16) (by decide) (by decide) (by decide) (by decide)
 have Rr11 := Rr10.trans R11
 have Z11 : n0 ≤ h11.size := Nat.le_trans Z9 E11.1
 have K11 : Keep h0 h11 [a0] := K9.ext E11
 obtain ⟨_, T13, Lc13, X13, hQ13, st13⟩ := own_callS (W := 1) (y := mN52) X11 hx hZ hown (oq hw 18 rfl) (oq hw 19 rfl) (oq hw 20 rfl) (oq hw 21 rfl) (by decide) (rmRN l Z av0 hw [] bb a11 h11 n0 Z11 ) (by decide) (by decide) (g := (mkF m 21 #[rv a0, rv sa, rv bb, iv y, .val (.long dt), .second] [(.ref a11), (.ref bb), (.ref a0)])) rfl (by rw [hml]; rfl) (argsL := [(.ref bb), (.ref a11)]) (rest := [(.ref a0)]) (lenOf pd__Ljava_lang_Object_Ljava_lang_String_Ljava_lang_Object_ rfl) rfl (Y 11 rfl) rfl e11 (by decide : 4 + 0 ≤ _) (by decide : 32 + 0 ≤ _)
 obtain ⟨rfl, N13q, hh13⟩ := hQ13
 have N13 := Fr.app N9 N13q
 have e13 : T13.heap = h11 := hh13
 have f14 := (((hEb.ext E2).wr W9).ext E11)
 obtain ⟨T15, X15, e15, st15⟩ := castY X13 hx hZ hown (oq hw 27 rfl) e13 (Ins.self f14) (g := (mkF m 24 #[rv a0, rv sa, rv bb, iv y, .val (.long dt), .second] [(.ref bb), (.ref a0)])) rfl rfl (Y 12 rfl)
 have f16 := (((hBy.ext E2).other W9 hn3).ext E11)
 obtain ⟨kc17, cl17, Ar17, -⟩ := id f16
 obtain ⟨Az17, Fz17, Sz17⟩ := own_Ab.fitC f16 Ar17.1 (Nat.lt_of_le_of_lt hnb (by decide))
 obtain ⟨T17, h17, X17, e17, E17, A17, Ex17, st17⟩ := cloneA X15 hx hZ hown (oq hw 29 rfl) (oq hw 30 rfl) (oq hw 34 rfl) (oq hw 32 rfl) (oq hw 33 rfl) (oq hw 35 rfl) e15 Az17 f14 Fz17 (g := (mkF m 27 #[rv a0, rv sa, rv bb, iv y, .val (.long dt), .second] [(.ref bb), (.ref a0)])) rfl (by rw [hml]; rfl) (rest := [(.ref a0)]) rfl (Y 13 rfl) (by decide) (W := 1) (cap := 15) (by show 2 * 0 + _ ≤ _; exact Nat.le_of_eq rfl) (by decide) (by rw [Sz17]; exact hnb) (by decide) (by decide)
 have V17 := own_cloned f16 Ar17.1 A17
 obtain ⟨b17, g17⟩ : ∃ z, z = h11.size := ⟨_, rfl⟩
 rw [← g17] at Ex17 V17 st17
 have f18 := ((f8.wr W9).ext E11)
 have ne_a0_b17 : a0 ≠ b17 := Nat.ne_of_lt (Nat.lt_of_lt_of_le f18.lt (Nat.le_of_eq g17.symm))
 have ne_bb_b17 : bb ≠ b17 := Nat.ne_of_lt (Nat.lt_of_lt_of_le f14.lt (Nat.le_of_eq g17.symm))
 have f19 := ((f5.wr W9).ext E11)
 have ne_sa_b17 : sa ≠ b17 := Nat.ne_of_lt (Nat.lt_of_lt_of_le f19.lt (Nat.le_of_eq g17.symm))
 have f20 := (((hT.A.ext E2).other W9 hn2).ext E11)
 have ne_sb_b17 : sb ≠ b17 := Nat.ne_of_lt (Nat.lt_of_lt_of_le f20.lt (Nat.le_of_eq g17.symm))
 have ge_b17 : n0 ≤ b17 := Nat.le_trans Z11 (Nat.le_of_eq g17.symm)
 have sz_b17 : h0.size ≤ b17 := Nat.le_trans K11.1 (Nat.le_of_eq g17.symm)
 have sf17_b17 : Safe Z consts_1 T11.vm _ b17 := Safe.new (Nat.le_of_eq g17.symm)
 have sf21_b17 := Safe.ext E17 Rr11.1 sf17_b17
 have Rr21 := Rr11.trans (CHr.ext E17 Rr11.1)
 have Z17 : n0 ≤ h17.size := Nat.le_trans Z11 E17.1
 have K17 : Keep h0 h17 [a0] := K11.ext E17
 obtain ⟨T22, X22, e22, st22⟩ := castY X17 hx hZ hown (oq hw 27 rfl) e17 (Ins.self Ex17) (g := (mkF m 30 #[rv a0, rv sa, rv bb, iv y, .val (.long dt), .second] [(.ref b17), (.ref a0)])) rfl rfl (Y 14 rfl)
 have f23 := ((((hmBo.ext E2).other W9 (Or.inr (slot_ne (Or.inr (oq hw 37 rfl)) (Or.inr (oq hw 25 rfl)) (by decide) (t := (.array .byte)) (t' := (.object "java/lang/String")) (by decide) (by decide)))).ext E11).ext E17)
 have f24 := (f18.ext E17)
 obtain ⟨T25, h25, X25, e25, W25, st25⟩ := putF X22 hx hZ hown (host := "") (Or.inl (oq hw 36 rfl)) Via.refl e22 f23 f24 (Or.inr ⟨(oq hw 37 rfl), rfl, hnm⟩) (oq hw 9 rfl) (ty := (.array .byte)) (by decide) rfl rfl (g := (mkF m 33 #[rv a0, rv sa, rv bb, iv y, .val (.long dt), .second] [(.ref b17), (.ref a0)])) rfl rfl (Y 15 rfl)
 have sf26_b17 := Safe.wr W25 (Safe.exa hZ.alike f24 (by decide) (by decide)) Rr21.1 sf21_b17
 have Rr26 := Rr21.trans (CHr.wr W25 (Safe.exa hZ.alike f24 (by decide) (by decide)) Rr21.1)
 have N25 := Fr.snoc X25 N13 hga
 have Z25 : n0 ≤ h25.size := Nat.le_trans Z17 (Nat.le_of_eq W25.size.symm)
 have K25 : Keep h0 h25 [a0] := K17.wr W25 (Or.inl (List.mem_of_getElem? (i := 0) rfl))
 have Fw25 := f23.same W25
 have f27 := (((((hmAt.ext E2).other W9 (Or.inr (slot_ne (Or.inr (oq hw 39 rfl)) (Or.inr (oq hw 25 rfl)) (by decide) (t := .int) (t' := (.object "java/lang/String")) (by decide) (by decide)))).ext E11).ext E17).other W25 (Or.inr (slot_ne (Or.inr (oq hw 39 rfl)) (Or.inr (oq hw 37 rfl)) (by decide) (t := .int) (t' := (.array .byte)) (by decide) (by decide))))
 have f28 := (f24.wr W25)
 obtain ⟨T29, h29, X29, e29, W29, st29⟩ := putF X25 hx hZ hown (host := "") (Or.inl (oq hw 38 rfl)) Via.refl e25 f27 f28 (Or.inr ⟨(oq hw 39 rfl), rfl, hnm⟩) (oq hw 9 rfl) (ty := .int) (by decide) rfl rfl (g := (mkF m 38 #[rv a0, rv sa, rv bb, iv y, .val (.long dt), .second] [(.int y), (.ref a0)])) rfl rfl (Y 18 rfl)
 have sf30_b17 := Safe.wr W29 (Safe.exa hZ.alike f28 (by decide) (by decide)) Rr26.1 sf26_b17
 have Rr30 := Rr26.trans (CHr.wr W29 (Safe.exa hZ.alike f28 (by decide) (by decide)) Rr26.1)
 have N29 := Fr.snoc X29 N25 hga
 have Z29 : n0 ≤ h29.size := Nat.le_trans Z25 (Nat.le_of_eq W29.size.symm)
 have K29 : Keep h0 h29 [a0] := K25.wr W29 (Or.inl (List.mem_of_getElem? (i := 0) rfl))
 have Fw29 := f27.same W29
 have f31 := ((((((hmDu.ext E2).other W9 (Or.inr (slot_ne (Or.inr (oq hw 41 rfl)) (Or.inr (oq hw 25 rfl)) (by decide) (t := .long) (t' := (.object "java/lang/String")) (by decide) (by decide)))).ext E11).ext E17).other W25 (Or.inr (slot_ne (Or.inr (oq hw 41 rfl)) (Or.inr (oq hw 37 rfl)) (by decide) (t := .long) (t' := (.array .byte)) (by decide) (by decide)))).other W29 (Or.inr (slot_ne (Or.inr (oq hw 41 rfl)) (Or.inr (oq hw 39 rfl)) (by decide) (t := .long) (t' := .int) (by decide) (by decide))))
 have f32 := (f28.wr W29)
 obtain ⟨T33, h33, X33, e33, W33, st33⟩ := putF X29 hx hZ hown (host := "") (Or.inl (oq hw 40 rfl)) Via.refl e29 f31 f32 (Or.inr ⟨(oq hw 41 rfl), rfl, hnm⟩) (oq hw 9 rfl) (ty := .long) (by decide) rfl rfl (g := (mkF m 44 #[rv a0, rv sa, rv bb, iv y, .val (.long dt), .second] [(.long dt), (.ref a0)])) rfl rfl (Y 21 rfl)
 have sf34_b17 := Safe.wr W33 (Safe.exa hZ.alike f32 (by decide) (by decide)) Rr30.1 sf30_b17
 have Rr34 := Rr30.trans (CHr.wr W33 (Safe.exa hZ.alike f32 (by decide) (by decide)) Rr30.1)
 have N33 := Fr.snoc X33 N29 hga
 have Z33 : n0 ≤ h33.size := Nat.le_trans Z29 (Nat.le_of_eq W33.size.symm)
 have K33 : Keep h0 h33 [a0] := K29.wr W33 (Or.inl (List.mem_of_getElem? (i := 0) rfl))
 have Fw33 := f31.same W33
 have S35 : ∀ tz, oS p e below T33 (mkF m 47 #[rv a0, rv sa, rv bb, iv y, .val (.long dt), .second] []) tz → P0 tz := fun tz kz => S12 tz (by
  refine st11 _ ?_
  refine st13 _ ?_
  refine st15 _ ?_
  refine st17 _ ?_
  show oS p e below T17 (mkF m 30 #[rv a0, rv sa, rv bb, iv y, .val (.long dt), .second] [(.ref b17), (.ref a0)]) _
  refine st22 _ ?_
  refine st25 _ ?_
  refine XS.aloadN X25.here hx rfl (Y 16 rfl) rfl rfl ?_
  refine XS.iloadN X25.here hx rfl (Y 17 rfl) rfl ?_
  refine st29 _ ?_
  refine XS.aloadN X29.here hx rfl (Y 19 rfl) rfl rfl ?_
  show oS p e below T29 (mkF m 42 #[rv a0, rv sa, rv bb, iv y, .val (.long dt), .second] [(.ref a0)]) _
  refine XT.lload X29.here hx rfl (Y 20 rfl) rfl ?_
  refine st33 _ ?_
  exact kz)
 obtain ⟨fs, hr, hrun, hended, hEnd⟩ := X33.leaveW hS11 (by rw [e33]; exact (Nat.le_trans (Nat.le_trans (Nat.le_trans (Nat.le_trans hk11 E17.1) (Nat.le_of_eq W25.size.symm)) (Nat.le_of_eq W29.size.symm)) (Nat.le_of_eq W33.size.symm))) (v := none) (fun _ => rfl)
 refine ⟨_, _, pre0 _ (S35 _ ?_), hrun, hended, _, _, rfl, ?_, (by show CHr Z consts_1 s.vm s.heap T33.vm T33.heap; rw [hh, e33]; exact Rr34.trans (CHv.at (s := s) (vm0 := T11.vm) (show Stand p l e _ (s.setVm T11.vm) m _ below meth c _ _ _ _ from X33) hZ (own_EW hw) Rr34.1)), hEnd.1, hEnd.2.1, hEnd.2.2.1, hEnd.2.2.2.mono (by decide) (by decide)⟩
 · exact X33.returnOut hx Bd.returns (Y 22 rfl) hr
 have f36 := (((((Fw9.ext E11).ext E17).other W25 (Or.inr (slot_ne (Or.inr (oq hw 25 rfl)) (Or.inr (oq hw 37 rfl)) (by decide) (t := (.object "java/lang/String")) (t' := (.array .byte)) (by decide) (by decide)))).other W29 (Or.inr (slot_ne (Or.inr (oq hw 25 rfl)) (Or.inr (oq hw 39 rfl)) (by decide) (t := (.object "java/lang/String")) (t' := .int) (by decide) (by decide)))).other W33 (Or.inr (slot_ne (Or.inr (oq hw 25 rfl)) (Or.inr (oq hw 41 rfl)) (by decide) (t := (.object "java/lang/String")) (t' := .long) (by decide) (by decide))))
 have f37 := ((Fw25.other W29 (Or.inr (slot_ne (Or.inr (oq hw 37 rfl)) (Or.inr (oq hw 39 rfl)) (by decide) (t := (.array .byte)) (t' := .int) (by decide) (by decide)))).other W33 (Or.inr (slot_ne (Or.inr (oq hw 37 rfl)) (Or.inr (oq hw 41 rfl)) (by decide) (t := (.array .byte)) (t' := .long) (by decide) (by decide))))
 have f38 := (Fw29.other W33 (Or.inr (slot_ne (Or.inr (oq hw 39 rfl)) (Or.inr (oq hw 41 rfl)) (by decide) (t := .int) (t' := .long) (by decide) (by decide))))
 have f39 := (((V17.other W25 (Ne.symm ne_a0_b17)).other W29 (Ne.symm ne_a0_b17)).other W33 (Ne.symm ne_a0_b17))
 · show QrmMI Z a0 sa sb nt gt bb nb gB y dt h0 n0 _ T33.heap _
   rw [e33]
   exact ⟨rfl, N33, b17, K33, f36, f37, f38, Fw33, f39, sz_b17⟩
theorem own_szI (y : Int32) : 1 ≤ own_sz y.toInt ∧ own_sz y.toInt ≤ 11 := by
  have r := rng32 y
  have d := own_dgpos y.toInt.natAbs
  have q : own_dg y.toInt.natAbs ≤ 10 := (own_dglt (by decide)).mpr (by omega)
  unfold own_sz
  split <;> omega
theorem own_szL (y : Int64) : 1 ≤ own_sz y.toInt ∧ own_sz y.toInt ≤ 20 := by
  have r := rng64 y
  have d := own_dgpos y.toInt.natAbs
  have q : own_dg y.toInt.natAbs ≤ 19 := (own_dglt (by decide)).mpr (by omega)
  unfold own_sz
  split <;> omega
theorem own_szB {k : Nat} (h : k ≤ 15) : 1 ≤ own_sz (own_n k).toInt ∧ own_sz (own_n k).toInt ≤ 2 := by
  rw [own_nI (by omega)]
  have d := own_dgpos ((k : Int)).natAbs
  have q : own_dg ((k : Int)).natAbs ≤ 2 := (own_dglt (by decide)).mpr (by omega)
  unfold own_sz
  split <;> omega
theorem own_stC {cap n : Nat} (h1 : cap = 34 ∨ cap = 70) (h2 : n ≤ 70) : (own_gr cap n = 34 ∧ n ≤ 34) ∨ own_gr cap n = 70 := by
  unfold own_gr
  split <;> omega
theorem own_or34 {cap n : Nat} (h : (cap = 34 ∧ n ≤ 34) ∨ cap = 70) : cap = 34 ∨ cap = 70 := h.imp (·.1) id
theorem own_AB {cap n k : Nat} (hI : (cap = 34 ∧ n ≤ 34) ∨ cap = 70) (h : n + k ≤ 70) : n ≤ cap ∧ n + k ≤ 70 ∧ cap ≤ 140 := by omega
theorem own_cp34 {cap n : Nat} (hI : (cap = 34 ∧ n ≤ 34) ∨ cap = 70) : 0 < cap := by omega
theorem own_ltS {i k p n : Nat} (hi : i < k) (h : p + k ≤ n) : p + i < n := by omega
theorem own_fin {cap n : Nat} (hI : (cap = 34 ∧ n ≤ 34) ∨ cap = 70) (h1 : 36 ≤ n) (h2 : n < 70) : n < cap ∧ cap ≤ 140 := by omega
theorem own_i2l (x : Int32) : (x.toInt64).toInt = x.toInt := c_i2l x
theorem own_pos (nt s1 s2 s3 : Nat) : (0 + 8) ≤ (((((((((0 + 8) + nt) + 10) + s1) + 6) + s2) + 2) + s3) + 7) ∧ ((0 + 8) + nt) ≤ (((((((((0 + 8) + nt) + 10) + s1) + 6) + s2) + 2) + s3) + 7) ∧ (((0 + 8) + nt) + 10) ≤ (((((((((0 + 8) + nt) + 10) + s1) + 6) + s2) + 2) + s3) + 7) ∧ ((((0 + 8) + nt) + 10) + s1) ≤ (((((((((0 + 8) + nt) + 10) + s1) + 6) + s2) + 2) + s3) + 7) ∧ (((((0 + 8) + nt) + 10) + s1) + 6) ≤ (((((((((0 + 8) + nt) + 10) + s1) + 6) + s2) + 2) + s3) + 7) ∧ ((((((0 + 8) + nt) + 10) + s1) + 6) + s2) ≤ (((((((((0 + 8) + nt) + 10) + s1) + 6) + s2) + 2) + s3) + 7) ∧ (((((((0 + 8) + nt) + 10) + s1) + 6) + s2) + 2) ≤ (((((((((0 + 8) + nt) + 10) + s1) + 6) + s2) + 2) + s3) + 7) ∧ ((((((((0 + 8) + nt) + 10) + s1) + 6) + s2) + 2) + s3) ≤ (((((((((0 + 8) + nt) + 10) + s1) + 6) + s2) + 2) + s3) + 7) ∧ (((((((((0 + 8) + nt) + 10) + s1) + 6) + s2) + 2) + s3) + 7) ≤ (((((((((0 + 8) + nt) + 10) + s1) + 6) + s2) + 2) + s3) + 7) := by omega
theorem own_bds {nt s1 s2 s3 : Nat} (h0 : nt ≤ 2) (h1 : 1 ≤ s1 ∧ s1 ≤ 11) (h2 : 1 ≤ s2 ∧ s2 ≤ 20) (h3 : 1 ≤ s3 ∧ s3 ≤ 2) : (0 + 8) ≤ 70 ∧ ((0 + 8) + nt) ≤ 70 ∧ (((0 + 8) + nt) + 10) ≤ 70 ∧ ((((0 + 8) + nt) + 10) + s1) ≤ 70 ∧ (((((0 + 8) + nt) + 10) + s1) + 6) ≤ 70 ∧ ((((((0 + 8) + nt) + 10) + s1) + 6) + s2) ≤ 70 ∧ (((((((0 + 8) + nt) + 10) + s1) + 6) + s2) + 2) ≤ 70 ∧ ((((((((0 + 8) + nt) + 10) + s1) + 6) + s2) + 2) + s3) ≤ 70 ∧ (((((((((0 + 8) + nt) + 10) + s1) + 6) + s2) + 2) + s3) + 7) ≤ 70 ∧ 36 ≤ (((((((((0 + 8) + nt) + 10) + s1) + 6) + s2) + 2) + s3) + 7) ∧ (((((((((0 + 8) + nt) + 10) + s1) + 6) + s2) + 2) + s3) + 7) < 70 ∧ (((((((((0 + 8) + nt) + 10) + s1) + 6) + s2) + 2) + s3) + 7) < 1000 := by omega
theorem own_c0 {nt : Nat} (h0 : nt ≤ 2) : own_gr 16 ((0 + 8) + nt) = 16 ∧ own_gr 16 (((0 + 8) + nt) + 10) = 34 := by
  refine ⟨own_grN (by omega), ?_⟩
  rw [own_grY (by omega)]; omega
theorem own_b16 {n k : Nat} (h1 : n ≤ 16) (h : n + k ≤ 70) : n ≤ 16 ∧ n + k ≤ 70 ∧ (16 : Nat) ≤ 140 := ⟨h1, h, by decide⟩
theorem own_n15 (x : Int32) : ∃ k, x &&& (15 : Int32) = own_n k ∧ k ≤ 15 := by
  have q : (x &&& 15).toInt = x.toInt % (2 ^ 4 : Nat) := c_mask x 15 4 (by decide) (by decide)
  refine ⟨(x &&& 15).toInt.toNat, ?_, by omega⟩
  rw [← Int32.toInt_inj, own_nI (by omega)]; omega
theorem D_rmMT : oL prog_13_method_6_code [(0, .new 42, 3), (3, .dup, 1), (4, .invokespecial 44, 3), (7, .ldc 45, 2), (9, .invokevirtual 47, 3), (12, .aload_n 0, 1), (13, .getfield 17, 3), (16, .invokevirtual 47, 3), (19, .ldc 51, 2), (21, .invokevirtual 47, 3), (24, .aload_n 0, 1), (25, .getfield 34, 3), (28, .invokevirtual 53, 3), (31, .ldc 56, 2), (33, .invokevirtual 47, 3), (36, .aload_n 0, 1), (37, .getfield 38, 3), (40, .invokevirtual 58, 3), (43, .ldc 61, 2), (45, .invokevirtual 47, 3), (48, .aload_n 0, 1), (49, .getfield 31, 3), (52, .arraylength, 1), (53, .invokevirtual 53, 3), (56, .ldc 63, 2), (58, .invokevirtual 47, 3), (61, .invokevirtual 65, 3), (64, .areturn, 1)] := by decide +kernel
theorem pd__V : parseMethodDescriptor "()V" = some ⟨[], none⟩ := by decide +kernel
theorem pd__Ljava_lang_String_Ljava_lang_StringBuilder_ : parseMethodDescriptor "(Ljava/lang/String;)Ljava/lang/StringBuilder;" = some ⟨[(.object "java/lang/String")], some (.object "java/lang/StringBuilder")⟩ := by decide +kernel
theorem pd__I_Ljava_lang_StringBuilder_ : parseMethodDescriptor "(I)Ljava/lang/StringBuilder;" = some ⟨[.int], some (.object "java/lang/StringBuilder")⟩ := by decide +kernel
theorem pd__J_Ljava_lang_StringBuilder_ : parseMethodDescriptor "(J)Ljava/lang/StringBuilder;" = some ⟨[.long], some (.object "java/lang/StringBuilder")⟩ := by decide +kernel
theorem pd__Ljava_lang_String_ : parseMethodDescriptor "()Ljava/lang/String;" = some ⟨[], some (.object "java/lang/String")⟩ := by decide +kernel
def QrmMT (Z : State) (a0 : Addr) (sa : Addr) (sb : Addr) (nt : Nat) (gt : Nat → Int32) (bb : Addr) (nb : Nat) (gB : Nat → Int32) (y : Int32) (dt : Int64) (dO : Addr) (dX : Addr) (wC : Int32) (h0 : Heap) (n0 : Nat) (v : Option Value) (h : Heap) (L : List Loc) : Prop := ∃ (a b : Addr) (gs : Nat → Int32), v = some (.ref a) ∧ Fr n0 L ∧ Keep h0 h [] ∧ own_Str Z h a b (((((((((0 + 8) + nt) + 10) + own_sz y.toInt) + 6) + own_sz dt.toInt) + 2) + own_sz (own_n nb).toInt) + 7) gs ∧ (∀ i, i < 8 → gs (0 + i) = own_t0 i) ∧ (∀ i, i < nt → gs ((0 + 8) + i) = gt i) ∧ (∀ i, i < 10 → gs (((0 + 8) + nt) + i) = own_t1 i) ∧ (∀ i, i < own_sz y.toInt → gs ((((0 + 8) + nt) + 10) + i) = (own_num y.toInt) i) ∧ (∀ i, i < 6 → gs (((((0 + 8) + nt) + 10) + own_sz y.toInt) + i) = own_t2 i) ∧ (∀ i, i < own_sz dt.toInt → gs ((((((0 + 8) + nt) + 10) + own_sz y.toInt) + 6) + i) = (own_num dt.toInt) i) ∧ (∀ i, i < 2 → gs (((((((0 + 8) + nt) + 10) + own_sz y.toInt) + 6) + own_sz dt.toInt) + i) = own_t3 i) ∧ (∀ i, i < own_sz (own_n nb).toInt → gs ((((((((0 + 8) + nt) + 10) + own_sz y.toInt) + 6) + own_sz dt.toInt) + 2) + i) = (own_num (own_n nb).toInt) i) ∧ (∀ i, i < 7 → gs (((((((((0 + 8) + nt) + 10) + own_sz y.toInt) + 6) + own_sz dt.toInt) + 2) + own_sz (own_n nb).toInt) + i) = own_t4 i)
theorem rmMT (l : Launch) (Z : State) (av0 : Array Value) (hw : ∀ d ∈ tables_1, d.before av0 Z = true) (ws : List Jvm.Cond) (a0 : Addr) (sa : Addr) (sb : Addr) (nt : Nat) (gt : Nat → Int32) (bb : Addr) (nb : Nat) (gB : Nat → Int32) (y : Int32) (dt : Int64) (dO : Addr) (dX : Addr) (wC : Int32) (h0 : Heap) (n0 : Nat) (Z0 : n0 ≤ h0.size) (hE : Exa Z h0 a0 "com/example/campofelice/campofelice/Message") (hmId : Fld Z h0 a0 "com/example/campofelice/campofelice/Message" "mId" "Ljava/lang/String;" (.ref sa)) (hmBo : Fld Z h0 a0 "com/example/campofelice/campofelice/Message" "mBody" "[B" (.ref bb)) (hmAt : Fld Z h0 a0 "com/example/campofelice/campofelice/Message" "mAttempt" "I" (.int y)) (hmDu : Fld Z h0 a0 "com/example/campofelice/campofelice/Message" "mDueTime" "J" (.long dt)) (hT : own_Str Z h0 sa sb nt gt) (hBy : own_Ab Z h0 bb nb gB) (hSO : Sta Z h0 "java/lang/Integer" "DigitOnes" "[B" (.ref dO)) (hSX : Sta Z h0 "java/lang/Integer" "DigitTens" "[B" (.ref dX)) (hAO : own_Ab Z h0 dO 100 own_d1) (hAX : own_Ab Z h0 dX 100 own_d2) (hnt : nt ≤ 2) (hnb : nb ≤ 15) (hSC : Sta Z h0 "java/lang/String" "COMPACT_STRINGS" "Z" (.int wC)) (hwC : ¬ wC = (0 : Int32)) :
   MetFree l mN54 (head1 (Jvm.Cond.code mN54 prog_13_method_6_code 1 (some (.object "java/lang/String")) :: ws) ({ frames := 6, cells := 23, slots := 1576, locals := 113 } : Room)) (fun aU U => aU = #[(.ref a0)] ∧ Z.Warmed39 U.vm ∧ U.heap = h0 ∧ CHv Z consts_1 U.vm h0) (fun _ _ _ _ _ => True) (fun _ U oU U' => ∃ vU LU, oU = .returned vU ∧ QrmMT Z a0 sa sb nt gt bb nb gB y dt dO dX wC h0 n0 vU U'.heap LU ∧ CHr Z consts_1 U.vm U.heap U'.vm U'.heap ∧ ReturnedEndW U oU U' LU ({ frames := 6, cells := 23, slots := 1576, locals := 113 } : Room).cells ({ frames := 6, cells := 23, slots := 1576, locals := 113 } : Room).slots) := by
 refine MetFree.of_bodySF (plainFor_of_name pn_Message) hisR ?_
 intro p e s m args below meth c s₁ Bd hml0 hP hK
 obtain ⟨rfl, hZ, hh, hI⟩ := hP
 have hml : c.maxLocals = 1 := hml0
 obtain ⟨hx, hby, hown, hnm, X0, e0⟩ := own_start Bd hml0 hh
 have N0 := Fr.nil n0
 have Y := @oY _ _ _ hby D_rmMT
 obtain ⟨P0, in0, pre0⟩ : ∃ P : State → Prop, (∀ tz, oS p e below s₁ (mkF m 0 #[rv a0] []) tz → P tz) ∧ ∀ tz, P tz → Steps p.tables e below (s₁.setTop (entryFrame m #[(.ref a0)] 1)) tz := ⟨_, fun _ kz => kz, fun tz kz => castTop (by first | (simp [entryFrame, mkF, argsToLocals, Value.category]; done) | rfl) kz⟩
 have hbs := own_bds hnt (own_szI y) (own_szL dt) (own_szB hnb)
 obtain ⟨T1, h1, X1, e1, E1, A1, D1, -, st1⟩ := newO X0 hx hZ hown (oq hw 47 rfl) (oq hw 48 rfl) (oq hw 49 rfl) e0 (g := (mkF m 0 #[rv a0] [])) rfl (Y 0 rfl) (by decide) (by decide)
 obtain ⟨b1, g1⟩ : ∃ z, z = h0.size := ⟨_, rfl⟩
 rw [← g1] at A1 D1 st1
 have ne_a0_b1 : a0 ≠ b1 := Nat.ne_of_lt (Nat.lt_of_lt_of_le hE.lt (Nat.le_of_eq g1.symm))
 have ne_bb_b1 : bb ≠ b1 := Nat.ne_of_lt (Nat.lt_of_lt_of_le hBy.lt (Nat.le_of_eq g1.symm))
 have ne_dO_b1 : dO ≠ b1 := Nat.ne_of_lt (Nat.lt_of_lt_of_le hAO.lt (Nat.le_of_eq g1.symm))
 have ne_dX_b1 : dX ≠ b1 := Nat.ne_of_lt (Nat.lt_of_lt_of_le hAX.lt (Nat.le_of_eq g1.symm))
 have ne_sa_b1 : sa ≠ b1 := Nat.ne_of_lt (Nat.lt_of_lt_of_le hT.E.lt (Nat.le_of_eq g1.symm))
 have ne_sb_b1 : sb ≠ b1 := Nat.ne_of_lt (Nat.lt_of_lt_of_le hT.A.lt (Nat.le_of_eq g1.symm))
 have ge_b1 : n0 ≤ b1 := Nat.le_trans Z0 (Nat.le_of_eq g1.symm)
 have sz_b1 : h0.size ≤ b1 := Nat.le_of_eq g1.symm
 have sf1_b1 : Safe Z consts_1 s.vm _ b1 := Safe.new (Nat.le_of_eq g1.symm)
 have sf2_b1 := Safe.ext E1 (CHr.refl hI).1 sf1_b1
 have Rr2 := (CHr.refl hI).trans (CHr.ext E1 (CHr.refl hI).1)
 have Z1 : n0 ≤ h1.size := Nat.le_trans Z0 E1.1
 have K1 : Keep h0 h1 [] := (Keep.refl h0 []).ext E1
 have F1_value : Fld Z h1 b1 "java/lang/AbstractStringBuilder" "value" "[B" .null := D1 (Or.inl (oq hw 62 rfl)) (ty := (.array .byte)) (by decide)
 have F1_coder : Fld Z h1 b1 "java/lang/AbstractStringBuilder" "coder" "B" (.int 0) := D1 (Or.inl (oq hw 64 rfl)) (ty := .byte) (by decide)
 have F1_count : Fld Z h1 b1 "java/lang/AbstractStringBuilder" "count" "I" (.int 0) := D1 (Or.inl (oq hw 90 rfl)) (ty := .int) (by decide)
 have f3 := (hSC.ext E1)
 obtain ⟨_, T4, Lc4, X4, hQ4, st4⟩ := own_special (W := 1) (y := mN14) X1 hx hZ rfl hown (oq hw 50 rfl) (oq hw 51 rfl) (oq hw 52 rfl) (oq hw 49 rfl) (by decide) (rmSI l Z av0 hw [] b1 wC h1 n0 Z1 A1 F1_value F1_coder F1_count ge_b1 f3 hwC) (by decide) (by decide) (g := (mkF m 4 #[rv a0] [(.ref b1), (.ref b1)])) rfl (by rw [hml]; rfl) (a := b1) (argsL := []) (rest := [(.ref b1)]) (lenOf pd__V rfl) rfl (Y 2 rfl) rfl e1 (by decide : 1 + 1 ≤ _) (by decide : 4 + 16 ≤ _)
 obtain ⟨rfl, N4q, b4, K4, Db4, gb4⟩ := hQ4
 have N4 := Fr.app N0 N4q
 have e4 : T4.heap = T4.heap := rfl
 have f5 := (hE.ext E1)
 have ne_a0_b4 : a0 ≠ b4 := Nat.ne_of_lt (Nat.lt_of_lt_of_le f5.lt gb4)
 have ne_b1_b4 : b1 ≠ b4 := Nat.ne_of_lt (Nat.lt_of_lt_of_le A1.lt gb4)
 have f6 := (hBy.ext E1)
 have ne_bb_b4 : bb ≠ b4 := Nat.ne_of_lt (Nat.lt_of_lt_of_le f6.lt gb4)
 have f7 := (hAO.ext E1)
 have ne_dO_b4 : dO ≠ b4 := Nat.ne_of_lt (Nat.lt_of_lt_of_le f7.lt gb4)
 have f8 := (hAX.ext E1)
 have ne_dX_b4 : dX ≠ b4 := Nat.ne_of_lt (Nat.lt_of_lt_of_le f8.lt gb4)
 have f9 := (hT.E.ext E1)
 have ne_sa_b4 : sa ≠ b4 := Nat.ne_of_lt (Nat.lt_of_lt_of_le f9.lt gb4)
 have f10 := (hT.A.ext E1)
 have ne_sb_b4 : sb ≠ b4 := Nat.ne_of_lt (Nat.lt_of_lt_of_le f10.lt gb4)
 have ge_b4 : n0 ≤ b4 := Nat.le_trans Z1 gb4
 have sz_b4 : h0.size ≤ b4 := Nat.le_trans K1.1 gb4
 have sf4_b4 : Safe Z consts_1 s.vm _ b4 := Safe.new gb4
 have sf11_b1 := Safe.keep K4 (allS sf2_b1 all0) Rr2.1 sf2_b1
 have sf11_b4 := Safe.keep K4 (allS sf2_b1 all0) Rr2.1 sf4_b4
 have Rr11 := Rr2.trans (CHr.keep K4 (allS sf2_b1 all0) Rr2.1)
 have Zk4 : n0 ≤ T4.heap.size := Nat.le_trans Z1 K4.1
 have Kk4 : Keep h0 T4.heap [] := K1.trans K4 (allS (Or.inr sz_b1) all0)
 have S13 : ∀ tz, oS p e below T4 (mkF m 7 #[rv a0] [(.ref b1)]) tz → P0 tz := fun tz kz => in0 tz (by
  refine st1 _ ?_
  refine XS.dup X1.here hx rfl (Y 1 rfl) rfl rfl ?_
  refine st4 _ ?_
  exact kz)
 obtain ⟨a12, T12, h12, ks12, b12, k12, X12, e12, E12, hS12, hk12, hZ, hown, Ea12, Fc12, Fv12, Av12, la12, lb12, R12, Li12, sn12, st12⟩ := ldcCH (s := s) (vm0 := s.vm) (show Stand p l e _ (s.setVm s.vm) m _ below meth c _ _ _ _ from X4) hx hZ hown (oq hw 65 rfl) (own_wS hw) e4 ((State.WarmedH.refl s).since 0) (Nat.zero_le _) (own_EW hw) (List.mem_of_getElem? (i := 2) rfl : _ ∈ consts_1) Rr11.1 (vs := own_vl 8 own_t0) (z := own_n 8) own_e0 (own_nge (by decide)) (by rw [own_vlen]; exact own_nc (by decide)) (g := (mkF m 7 #[rv a0] [(.ref b1)])) rfl (Y 3 rfl) (n := 32) (by decide) (by decide) (by decide) (by decide)
 have sf12_b1 := R12.safe Db4.E.lt sf11_b1
 have ne_b1_a12 : b1 ≠ a12 := (sn12 _ sf12_b1).1
 have ne_b1_b12 : b1 ≠ b12 := (sn12 _ sf12_b1).2
 have sf12_b4 := R12.safe Db4.A.lt sf11_b4
 have ne_b4_a12 : b4 ≠ a12 := (sn12 _ sf12_b4).1
 have ne_b4_b12 : b4 ≠ b12 := (sn12 _ sf12_b4).2
 have Rr12 := Rr11.trans R12
 have Z12 : n0 ≤ h12.size := Nat.le_trans Zk4 E12.1
 have K12 : Keep h0 h12 [] := Kk4.ext E12
 have Ds12 : own_Str Z h12 a12 b12 8 own_t0 := own_Str.mk Ea12 Fc12 Fv12 ⟨_, Av12⟩
 have f14 := (Db4.E.ext E12)
 have f15 := (Db4.A.ext E12)
 have f16 := (Db4.C.ext E12)
 have f17 := (Db4.V.ext E12)
 have f18 := (Db4.N.ext E12)
 have f19 := ((own_stak f3 K4 (allS (own_exns A1) all0)).ext E12)
 obtain ⟨_, T20, Lc20, X20, hQ20, st20⟩ := own_virtual (W := 0) (y := mN12) (z := mN12) X12 hx hZ hown (oq hw 66 rfl) (oq hw 67 rfl) (notFace_of_selects (args := #[]) (mvT hZ (oq hw 69 rfl))) (oq hw 69 rfl) (oq hw 68 rfl) (oq hw 70 rfl) (oq hw 49 rfl) (by decide) (rmSA l Z av0 hw [] b1 b4 16 0 (fun _ => 0) a12 b12 8 own_t0 wC h12 n0 Z12 (own_Bd.mk f14 f16 f17 f18 f15) ne_b1_b4 ge_b1 ge_b4 (own_Str.mk Ds12.E Ds12.C Ds12.V Ds12.A) (Ne.symm ne_b1_a12) (Ne.symm ne_b1_b12) (Ne.symm ne_b4_a12) (Ne.symm ne_b4_b12) (own_b16 (by decide) hbs.1) (by decide) f19 hwC) (by decide) (by decide) f14 (g := (mkF m 9 #[rv a0] [(.ref a12), (.ref b1)])) rfl (by rw [hml]; rfl) (argsL := [(.ref a12)]) (rest := []) (lenOf pd__Ljava_lang_String_Ljava_lang_StringBuilder_ rfl) rfl (Y 4 rfl) rfl e12 (by decide : 4 + 1 ≤ _) (by decide : 56 + 140 ≤ _)
 obtain ⟨rfl, N20q, b20, gn20, K20, Db20, ga20, gc20, gb20⟩ := hQ20
 have N20 := Fr.app N4 N20q
 have e20 : T20.heap = T20.heap := rfl
 have f21 := ((f5.keep K4).ext E12)
 have ne_a0_b20 : a0 ≠ b20 := own_or gb20 ne_a0_b4 (Nat.ne_of_lt ∘ Nat.lt_of_lt_of_le f21.lt)
 have ne_b1_b20 : b1 ≠ b20 := own_or gb20 ne_b1_b4 (Nat.ne_of_lt ∘ Nat.lt_of_lt_of_le f14.lt)
 have f22 := ((f6.keep K4 (ninS ne_bb_b1 nin0)).ext E12)
 have ne_bb_b20 : bb ≠ b20 := own_or gb20 ne_bb_b4 (Nat.ne_of_lt ∘ Nat.lt_of_lt_of_le f22.lt)
 have f23 := ((f7.keep K4 (ninS ne_dO_b1 nin0)).ext E12)
 have ne_dO_b20 : dO ≠ b20 := own_or gb20 ne_dO_b4 (Nat.ne_of_lt ∘ Nat.lt_of_lt_of_le f23.lt)
 have f24 := ((f8.keep K4 (ninS ne_dX_b1 nin0)).ext E12)
 have ne_dX_b20 : dX ≠ b20 := own_or gb20 ne_dX_b4 (Nat.ne_of_lt ∘ Nat.lt_of_lt_of_le f24.lt)
 have f25 := ((f9.keep K4).ext E12)
 have ne_sa_b20 : sa ≠ b20 := own_or gb20 ne_sa_b4 (Nat.ne_of_lt ∘ Nat.lt_of_lt_of_le f25.lt)
 have f26 := ((f10.keep K4 (ninS ne_sb_b1 nin0)).ext E12)
 have ne_sb_b20 : sb ≠ b20 := own_or gb20 ne_sb_b4 (Nat.ne_of_lt ∘ Nat.lt_of_lt_of_le f26.lt)
 have ge_b20 : n0 ≤ b20 := own_ge gb20 ge_b4 Z12
 have sz_b20 : h0.size ≤ b20 := own_ge gb20 sz_b4 K12.1
 have sf20_b20 := own_sor gb20 sf12_b4
 have sf27_b1 := Safe.keep K20 (allS sf12_b1 (allS sf12_b4 all0)) Rr12.1 sf12_b1
 have sf27_b4 := Safe.keep K20 (allS sf12_b1 (allS sf12_b4 all0)) Rr12.1 sf12_b4
 have sf27_b20 := Safe.keep K20 (allS sf12_b1 (allS sf12_b4 all0)) Rr12.1 sf20_b20
 have Rr27 := Rr12.trans (CHr.keep K20 (allS sf12_b1 (allS sf12_b4 all0)) Rr12.1)
 have Zk20 : n0 ≤ T20.heap.size := Nat.le_trans Z12 K20.1
 have Kk20 : Keep h0 T20.heap [] := K12.trans K20 (allS (Or.inr sz_b1) (allS (Or.inr sz_b4) all0))
 have hg20 : own_gr 16 (0 + 8) = 16 := own_grN (by decide)
 rw [hg20] at Db20
 have f28 := ((((hmId.ext E1).keep K4 (ninS ne_a0_b1 nin0)).ext E12).keep K20 (ninS ne_a0_b1 (ninS ne_a0_b4 nin0)))
 obtain ⟨T29, X29, e29, st29⟩ := getF X20 hx hZ hown (host := "") (Or.inl (oq hw 24 rfl)) Via.refl e20 f28 (g := (mkF m 13 #[rv a0] [(.ref a0), (.ref b1)])) rfl rfl (Y 6 rfl)
 have f30 := (f25.keep K20)
 have f31 := ((((hT.C.ext E1).keep K4 (ninS ne_sa_b1 nin0)).ext E12).keep K20 (ninS ne_sa_b1 (ninS ne_sa_b4 nin0)))
 have f32 := ((((hT.V.ext E1).keep K4 (ninS ne_sa_b1 nin0)).ext E12).keep K20 (ninS ne_sa_b1 (ninS ne_sa_b4 nin0)))
 have f33 := (f26.keep K20 (ninS ne_sb_b1 (ninS ne_sb_b4 nin0)))
 have f34 := (own_stak f19 K20 (allS (own_exns f14) (allS f15.ns all0)))
 obtain ⟨_, T35, Lc35, X35, hQ35, st35⟩ := own_virtual (W := 0) (y := mN12) (z := mN12) X29 hx hZ hown (oq hw 66 rfl) (oq hw 67 rfl) (notFace_of_selects (args := #[]) (mvT hZ (oq hw 69 rfl))) (oq hw 69 rfl) (oq hw 68 rfl) (oq hw 70 rfl) (oq hw 49 rfl) (by decide) (rmSA l Z av0 hw [] b1 b20 16 (0 + 8) gn20 sa sb nt gt wC T20.heap n0 Zk20 (own_Bd.mk Db20.E Db20.C Db20.V Db20.N Db20.A) ne_b1_b20 ge_b1 ge_b20 (own_Str.mk f30 f31 f32 f33) ne_sa_b1 ne_sb_b1 ne_sa_b20 ne_sb_b20 (own_b16 (by decide) hbs.2.1) (by decide) f34 hwC) (by decide) (by decide) Db20.E (g := (mkF m 16 #[rv a0] [(.ref sa), (.ref b1)])) rfl (by rw [hml]; rfl) (argsL := [(.ref sa)]) (rest := []) (lenOf pd__Ljava_lang_String_Ljava_lang_StringBuilder_ rfl) rfl (Y 7 rfl) rfl e29 (by decide : 5 + 1 ≤ _) (by decide : 196 + 140 ≤ _)
 obtain ⟨rfl, N35q, b35, gn35, K35, Db35, ga35, gc35, gb35⟩ := hQ35
 have N35 := Fr.app N20 N35q
 have e35 : T35.heap = T35.heap := rfl
 have f36 := (f21.keep K20)
 have ne_a0_b35 : a0 ≠ b35 := own_or gb35 ne_a0_b20 (Nat.ne_of_lt ∘ Nat.lt_of_lt_of_le f36.lt)
 have ne_b1_b35 : b1 ≠ b35 := own_or gb35 ne_b1_b20 (Nat.ne_of_lt ∘ Nat.lt_of_lt_of_le Db20.E.lt)
 have f37 := (f22.keep K20 (ninS ne_bb_b1 (ninS ne_bb_b4 nin0)))
 have ne_bb_b35 : bb ≠ b35 := own_or gb35 ne_bb_b20 (Nat.ne_of_lt ∘ Nat.lt_of_lt_of_le f37.lt)
 have f38 := (f23.keep K20 (ninS ne_dO_b1 (ninS ne_dO_b4 nin0)))
 have ne_dO_b35 : dO ≠ b35 := own_or gb35 ne_dO_b20 (Nat.ne_of_lt ∘ Nat.lt_of_lt_of_le f38.lt)
 have f39 := (f24.keep K20 (ninS ne_dX_b1 (ninS ne_dX_b4 nin0)))
 have ne_dX_b35 : dX ≠ b35 := own_or gb35 ne_dX_b20 (Nat.ne_of_lt ∘ Nat.lt_of_lt_of_le f39.lt)
 have ne_sa_b35 : sa ≠ b35 := own_or gb35 ne_sa_b20 (Nat.ne_of_lt ∘ Nat.lt_of_lt_of_le f30.lt)
 have ne_sb_b35 : sb ≠ b35 := own_or gb35 ne_sb_b20 (Nat.ne_of_lt ∘ Nat.lt_of_lt_of_le f33.lt)
 have ge_b35 : n0 ≤ b35 := own_ge gb35 ge_b20 Zk20
 have sz_b35 : h0.size ≤ b35 := own_ge gb35 sz_b20 Kk20.1
 have sf35_b35 := own_sor gb35 sf27_b20
 have sf40_b1 := Safe.keep K35 (allS sf27_b1 (allS sf27_b20 all0)) Rr27.1 sf27_b1
 have sf40_b20 := Safe.keep K35 (allS sf27_b1 (allS sf27_b20 all0)) Rr27.1 sf27_b20
 have sf40_b35 := Safe.keep K35 (allS sf27_b1 (allS sf27_b20 all0)) Rr27.1 sf35_b35
 have Rr40 := Rr27.trans (CHr.keep K35 (allS sf27_b1 (allS sf27_b20 all0)) Rr27.1)
 have Zk35 : n0 ≤ T35.heap.size := Nat.le_trans Zk20 K35.1
 have Kk35 : Keep h0 T35.heap [] := Kk20.trans K35 (allS (Or.inr sz_b1) (allS (Or.inr sz_b20) all0))
 rw [(own_c0 hnt).1] at Db35
 have sg35_0 : ∀ i, i < 8 → gn35 (0 + i) = own_t0 i := fun i hi => (ga35 _ (own_ltS hi (Nat.le_refl _))).trans (gc20 i hi)
 have S42 : ∀ tz, oS p e below T35 (mkF m 19 #[rv a0] [(.ref b1)]) tz → P0 tz := fun tz kz => S13 tz (by
  refine st12 _ ?_
  refine st20 _ ?_
  refine XS.aloadN X20.here hx rfl (Y 5 rfl) rfl rfl ?_
  refine st29 _ ?_
  refine st35 _ ?_
  exact kz)
 obtain ⟨a41, T41, h41, ks41, b41, k41, X41, e41, E41, hS41, hk41, hZ, hown, Ea41, Fc41, Fv41, Av41, la41, lb41, R41, Li41, sn41, st41⟩ := ldcCH (s := s) (vm0 := T12.vm) (show Stand p l e _ (s.setVm T12.vm) m _ below meth c _ _ _ _ from X35) hx hZ hown (oq hw 116 rfl) (own_wS hw) e35 hS12 (Nat.le_trans (Nat.le_trans hk12 K20.1) K35.1) (own_EW hw) (List.mem_of_getElem? (i := 3) rfl : _ ∈ consts_1) Rr40.1 (vs := own_vl 10 own_t1) (z := own_n 10) own_e1 (own_nge (by decide)) (by rw [own_vlen]; exact own_nc (by decide)) (g := (mkF m 19 #[rv a0] [(.ref b1)])) rfl (Y 8 rfl) (n := 40) (by decide) (by decide) (by decide) (by decide)
 have sf41_b1 := R41.safe Db35.E.lt sf40_b1
 have ne_b1_a41 : b1 ≠ a41 := (sn41 _ sf41_b1).1
 have ne_b1_b41 : b1 ≠ b41 := (sn41 _ sf41_b1).2
 have sf41_b35 := R41.safe Db35.A.lt sf40_b35
 have ne_b35_a41 : b35 ≠ a41 := (sn41 _ sf41_b35).1
 have ne_b35_b41 : b35 ≠ b41 := (sn41 _ sf41_b35).2
 have Rr41 := Rr40.trans R41
 have Z41 : n0 ≤ h41.size := Nat.le_trans Zk35 E41.1
 have K41 : Keep h0 h41 [] := Kk35.ext E41
 have Ds41 : own_Str Z h41 a41 b41 10 own_t1 := own_Str.mk Ea41 Fc41 Fv41 ⟨_, Av41⟩
 have f43 := (Db35.E.ext E41)
 have f44 := (Db35.A.ext E41)
 have f45 := (Db35.C.ext E41)
 have f46 := (Db35.V.ext E41)
 have f47 := (Db35.N.ext E41)
 have f48 := ((own_stak f34 K35 (allS (own_exns Db20.E) (allS Db20.A.ns all0))).ext E41)
 obtain ⟨_, T49, Lc49, X49, hQ49, st49⟩ := own_virtual (W := 0) (y := mN12) (z := mN12) X41 hx hZ hown (oq hw 66 rfl) (oq hw 67 rfl) (notFace_of_selects (args := #[]) (mvT hZ (oq hw 69 rfl))) (oq hw 69 rfl) (oq hw 68 rfl) (oq hw 70 rfl) (oq hw 49 rfl) (by decide) (rmSA l Z av0 hw [] b1 b35 16 ((0 + 8) + nt) gn35 a41 b41 10 own_t1 wC h41 n0 Z41 (own_Bd.mk f43 f45 f46 f47 f44) ne_b1_b35 ge_b1 ge_b35 (own_Str.mk Ds41.E Ds41.C Ds41.V Ds41.A) (Ne.symm ne_b1_a41) (Ne.symm ne_b1_b41) (Ne.symm ne_b35_a41) (Ne.symm ne_b35_b41) (own_b16 (show (0 + 8) + nt ≤ 16 by omega) hbs.2.2.1) (by decide) f48 hwC) (by decide) (by decide) f43 (g := (mkF m 21 #[rv a0] [(.ref a41), (.ref b1)])) rfl (by rw [hml]; rfl) (argsL := [(.ref a41)]) (rest := []) (lenOf pd__Ljava_lang_String_Ljava_lang_StringBuilder_ rfl) rfl (Y 9 rfl) rfl e41 (by decide : 8 + 1 ≤ _) (by decide : 380 + 140 ≤ _)
 obtain ⟨rfl, N49q, b49, gn49, K49, Db49, ga49, gc49, gb49⟩ := hQ49
 have N49 := Fr.app N35 N49q
 have e49 : T49.heap = T49.heap := rfl
 have f50 := ((f36.keep K35).ext E41)
 have ne_a0_b49 : a0 ≠ b49 := own_or gb49 ne_a0_b35 (Nat.ne_of_lt ∘ Nat.lt_of_lt_of_le f50.lt)
 have ne_b1_b49 : b1 ≠ b49 := own_or gb49 ne_b1_b35 (Nat.ne_of_lt ∘ Nat.lt_of_lt_of_le f43.lt)
 have f51 := ((f37.keep K35 (ninS ne_bb_b1 (ninS ne_bb_b20 nin0))).ext E41)
 have ne_bb_b49 : bb ≠ b49 := own_or gb49 ne_bb_b35 (Nat.ne_of_lt ∘ Nat.lt_of_lt_of_le f51.lt)
 have f52 := ((f38.keep K35 (ninS ne_dO_b1 (ninS ne_dO_b20 nin0))).ext E41)
 have ne_dO_b49 : dO ≠ b49 := own_or gb49 ne_dO_b35 (Nat.ne_of_lt ∘ Nat.lt_of_lt_of_le f52.lt)
 have f53 := ((f39.keep K35 (ninS ne_dX_b1 (ninS ne_dX_b20 nin0))).ext E41)
 have ne_dX_b49 : dX ≠ b49 := own_or gb49 ne_dX_b35 (Nat.ne_of_lt ∘ Nat.lt_of_lt_of_le f53.lt)
 have f54 := ((f30.keep K35).ext E41)
 have ne_sa_b49 : sa ≠ b49 := own_or gb49 ne_sa_b35 (Nat.ne_of_lt ∘ Nat.lt_of_lt_of_le f54.lt)
 have f55 := ((f33.keep K35 (ninS ne_sb_b1 (ninS ne_sb_b20 nin0))).ext E41)
 have ne_sb_b49 : sb ≠ b49 := own_or gb49 ne_sb_b35 (Nat.ne_of_lt ∘ Nat.lt_of_lt_of_le f55.lt)
 have ge_b49 : n0 ≤ b49 := own_ge gb49 ge_b35 Z41
 have sz_b49 : h0.size ≤ b49 := own_ge gb49 sz_b35 K41.1
 have sf49_b49 := own_sor gb49 sf41_b35
 have sf56_b1 := Safe.keep K49 (allS sf41_b1 (allS sf41_b35 all0)) Rr41.1 sf41_b1
 have sf56_b35 := Safe.keep K49 (allS sf41_b1 (allS sf41_b35 all0)) Rr41.1 sf41_b35
 have sf56_b49 := Safe.keep K49 (allS sf41_b1 (allS sf41_b35 all0)) Rr41.1 sf49_b49
 have Rr56 := Rr41.trans (CHr.keep K49 (allS sf41_b1 (allS sf41_b35 all0)) Rr41.1)
 have Zk49 : n0 ≤ T49.heap.size := Nat.le_trans Z41 K49.1
 have Kk49 : Keep h0 T49.heap [] := K41.trans K49 (allS (Or.inr sz_b1) (allS (Or.inr sz_b35) all0))
 rw [(own_c0 hnt).2] at Db49
 have hI49 : ((34 : Nat) = 34 ∧ (((0 + 8) + nt) + 10) ≤ 34) ∨ (34 : Nat) = 70 := Or.inl ⟨rfl, by omega⟩
 have sg49_0 : ∀ i, i < 8 → gn49 (0 + i) = own_t0 i := fun i hi => (ga49 _ (own_ltS hi (Nat.le_trans (Nat.le_refl _) (Nat.le_add_right _ _)))).trans (sg35_0 i hi)
 have sg49_1 : ∀ i, i < nt → gn49 ((0 + 8) + i) = gt i := fun i hi => (ga49 _ (own_ltS hi (Nat.le_refl _))).trans (gc35 i hi)
 have f57 := (((((((hmAt.ext E1).keep K4 (ninS ne_a0_b1 nin0)).ext E12).keep K20 (ninS ne_a0_b1 (ninS ne_a0_b4 nin0))).keep K35 (ninS ne_a0_b1 (ninS ne_a0_b20 nin0))).ext E41).keep K49 (ninS ne_a0_b1 (ninS ne_a0_b35 nin0)))
 obtain ⟨T58, X58, e58, st58⟩ := getF X49 hx hZ hown (host := "") (Or.inl (oq hw 38 rfl)) Via.refl e49 f57 (g := (mkF m 25 #[rv a0] [(.ref a0), (.ref b1)])) rfl rfl (Y 11 rfl)
 have f59 := (own_stak ((own_stak (own_stak ((own_stak (hSO.ext E1) K4 (allS (own_exns A1) all0)).ext E12) K20 (allS (own_exns f14) (allS f15.ns all0))) K35 (allS (own_exns Db20.E) (allS Db20.A.ns all0))).ext E41) K49 (allS (own_exns f43) (allS f44.ns all0)))
 have f60 := (own_stak ((own_stak (own_stak ((own_stak (hSX.ext E1) K4 (allS (own_exns A1) all0)).ext E12) K20 (allS (own_exns f14) (allS f15.ns all0))) K35 (allS (own_exns Db20.E) (allS Db20.A.ns all0))).ext E41) K49 (allS (own_exns f43) (allS f44.ns all0)))
 have f61 := (f52.keep K49 (ninS ne_dO_b1 (ninS ne_dO_b35 nin0)))
 have f62 := (f53.keep K49 (ninS ne_dX_b1 (ninS ne_dX_b35 nin0)))
 have f63 := (own_stak f48 K49 (allS (own_exns f43) (allS f44.ns all0)))
 obtain ⟨_, T64, Lc64, X64, hQ64, st64⟩ := own_virtual (W := 0) (y := mN30) (z := mN30) X58 hx hZ hown (oq hw 140 rfl) (oq hw 141 rfl) (notFace_of_selects (args := #[]) (mvT hZ (oq hw 143 rfl))) (oq hw 143 rfl) (oq hw 142 rfl) (oq hw 144 rfl) (oq hw 49 rfl) (by decide) (rmBpI l Z av0 hw [] b1 b49 34 (((0 + 8) + nt) + 10) gn49 y dO dX wC T49.heap n0 Zk49 (own_Bd.mk Db49.E Db49.C Db49.V Db49.N Db49.A) ne_b1_b49 ge_b1 ge_b49 f59 f60 f61 f62 ne_dO_b49 ne_dX_b49 ne_dO_b1 ne_dX_b1 (own_AB hI49 hbs.2.2.2.1) (own_cp34 hI49) f63 hwC) (by decide) (by decide) Db49.E (g := (mkF m 28 #[rv a0] [(.int y), (.ref b1)])) rfl (by rw [hml]; rfl) (argsL := [(.int y)]) (rest := []) (lenOf pd__I_Ljava_lang_StringBuilder_ rfl) rfl (Y 12 rfl) rfl e58 (by decide : 9 + 1 ≤ _) (by decide : 520 + 140 ≤ _)
 obtain ⟨rfl, N64q, b64, gn64, K64, Db64, ga64, gc64, gb64⟩ := hQ64
 have N64 := Fr.app N49 N64q
 have e64 : T64.heap = T64.heap := rfl
 have f65 := (f50.keep K49)
 have ne_a0_b64 : a0 ≠ b64 := own_or gb64 ne_a0_b49 (Nat.ne_of_lt ∘ Nat.lt_of_lt_of_le f65.lt)
 have ne_b1_b64 : b1 ≠ b64 := own_or gb64 ne_b1_b49 (Nat.ne_of_lt ∘ Nat.lt_of_lt_of_le Db49.E.lt)
 have f66 := (f51.keep K49 (ninS ne_bb_b1 (ninS ne_bb_b35 nin0)))
 have ne_bb_b64 : bb ≠ b64 := own_or gb64 ne_bb_b49 (Nat.ne_of_lt ∘ Nat.lt_of_lt_of_le f66.lt)
 have ne_dO_b64 : dO ≠ b64 := own_or gb64 ne_dO_b49 (Nat.ne_of_lt ∘ Nat.lt_of_lt_of_le f61.lt)
 have ne_dX_b64 : dX ≠ b64 := own_or gb64 ne_dX_b49 (Nat.ne_of_lt ∘ Nat.lt_of_lt_of_le f62.lt)
 have f67 := (f54.keep K49)
 have ne_sa_b64 : sa ≠ b64 := own_or gb64 ne_sa_b49 (Nat.ne_of_lt ∘ Nat.lt_of_lt_of_le f67.lt)
 have f68 := (f55.keep K49 (ninS ne_sb_b1 (ninS ne_sb_b35 nin0)))
 have ne_sb_b64 : sb ≠ b64 := own_or gb64 ne_sb_b49 (Nat.ne_of_lt ∘ Nat.lt_of_lt_of_le f68.lt)
 have ge_b64 : n0 ≤ b64 := own_ge gb64 ge_b49 Zk49
 have sz_b64 : h0.size ≤ b64 := own_ge gb64 sz_b49 Kk49.1
 have sf64_b64 := own_sor gb64 sf56_b49
 have sf69_b1 := Safe.keep K64 (allS sf56_b1 (allS sf56_b49 all0)) Rr56.1 sf56_b1
 have sf69_b49 := Safe.keep K64 (allS sf56_b1 (allS sf56_b49 all0)) Rr56.1 sf56_b49
 have sf69_b64 := Safe.keep K64 (allS sf56_b1 (allS sf56_b49 all0)) Rr56.1 sf64_b64
 have Rr69 := Rr56.trans (CHr.keep K64 (allS sf56_b1 (allS sf56_b49 all0)) Rr56.1)
 have Zk64 : n0 ≤ T64.heap.size := Nat.le_trans Zk49 K64.1
 have Kk64 : Keep h0 T64.heap [] := Kk49.trans K64 (allS (Or.inr sz_b1) (allS (Or.inr sz_b49) all0))
 obtain ⟨cp64, hcp64⟩ : ∃ z, z = own_gr 34 ((((0 + 8) + nt) + 10) + own_sz y.toInt) := ⟨_, rfl⟩
 rw [← hcp64] at Db64
 have hI64 : (cp64 = 34 ∧ ((((0 + 8) + nt) + 10) + own_sz y.toInt) ≤ 34) ∨ cp64 = 70 := by rw [hcp64]; exact own_stC (own_or34 hI49) hbs.2.2.2.1
 have sg64_0 : ∀ i, i < 8 → gn64 (0 + i) = own_t0 i := fun i hi => (ga64 _ (own_ltS hi (Nat.le_trans (Nat.le_trans (Nat.le_refl _) (Nat.le_add_right _ _)) (Nat.le_add_right _ _)))).trans (sg49_0 i hi)
 have sg64_1 : ∀ i, i < nt → gn64 ((0 + 8) + i) = gt i := fun i hi => (ga64 _ (own_ltS hi (Nat.le_trans (Nat.le_refl _) (Nat.le_add_right _ _)))).trans (sg49_1 i hi)
 have sg64_2 : ∀ i, i < 10 → gn64 (((0 + 8) + nt) + i) = own_t1 i := fun i hi => (ga64 _ (own_ltS hi (Nat.le_refl _))).trans (gc49 i hi)
 have S71 : ∀ tz, oS p e below T64 (mkF m 31 #[rv a0] [(.ref b1)]) tz → P0 tz := fun tz kz => S42 tz (by
  refine st41 _ ?_
  refine st49 _ ?_
  show oS p e below T49 (mkF m 24 #[rv a0] [(.ref b1)]) _
  refine XS.aloadN X49.here hx rfl (Y 10 rfl) rfl rfl ?_
  refine st58 _ ?_
  refine st64 _ ?_
  exact kz)
 obtain ⟨a70, T70, h70, ks70, b70, k70, X70, e70, E70, hS70, hk70, hZ, hown, Ea70, Fc70, Fv70, Av70, la70, lb70, R70, Li70, sn70, st70⟩ := ldcCH (s := s) (vm0 := T41.vm) (show Stand p l e _ (s.setVm T41.vm) m _ below meth c _ _ _ _ from X64) hx hZ hown (oq hw 162 rfl) (own_wS hw) e64 hS41 (Nat.le_trans (Nat.le_trans hk41 K49.1) K64.1) (own_EW hw) (List.mem_of_getElem? (i := 4) rfl : _ ∈ consts_1) Rr69.1 (vs := own_vl 6 own_t2) (z := own_n 6) own_e2 (own_nge (by decide)) (by rw [own_vlen]; exact own_nc (by decide)) (g := (mkF m 31 #[rv a0] [(.ref b1)])) rfl (Y 13 rfl) (n := 24) (by decide) (by decide) (by decide) (by decide)
 have sf70_b1 := R70.safe Db64.E.lt sf69_b1
 have ne_b1_a70 : b1 ≠ a70 := (sn70 _ sf70_b1).1
 have ne_b1_b70 : b1 ≠ b70 := (sn70 _ sf70_b1).2
 have sf70_b64 := R70.safe Db64.A.lt sf69_b64
 have ne_b64_a70 : b64 ≠ a70 := (sn70 _ sf70_b64).1
 have ne_b64_b70 : b64 ≠ b70 := (sn70 _ sf70_b64).2
 have Rr70 := Rr69.trans R70
 have Z70 : n0 ≤ h70.size := Nat.le_trans Zk64 E70.1
 have K70 : Keep h0 h70 [] := Kk64.ext E70
 have Ds70 : own_Str Z h70 a70 b70 6 own_t2 := own_Str.mk Ea70 Fc70 Fv70 ⟨_, Av70⟩
 have f72 := (Db64.E.ext E70)
 have f73 := (Db64.A.ext E70)
 have f74 := (Db64.C.ext E70)
 have f75 := (Db64.V.ext E70)
 have f76 := (Db64.N.ext E70)
 have f77 := ((own_stak f63 K64 (allS (own_exns Db49.E) (allS Db49.A.ns all0))).ext E70)
 obtain ⟨_, T78, Lc78, X78, hQ78, st78⟩ := own_virtual (W := 0) (y := mN12) (z := mN12) X70 hx hZ hown (oq hw 66 rfl) (oq hw 67 rfl) (notFace_of_selects (args := #[]) (mvT hZ (oq hw 69 rfl))) (oq hw 69 rfl) (oq hw 68 rfl) (oq hw 70 rfl) (oq hw 49 rfl) (by decide) (rmSA l Z av0 hw [] b1 b64 cp64 ((((0 + 8) + nt) + 10) + own_sz y.toInt) gn64 a70 b70 6 own_t2 wC h70 n0 Z70 (own_Bd.mk f72 f74 f75 f76 f73) ne_b1_b64 ge_b1 ge_b64 (own_Str.mk Ds70.E Ds70.C Ds70.V Ds70.A) (Ne.symm ne_b1_a70) (Ne.symm ne_b1_b70) (Ne.symm ne_b64_a70) (Ne.symm ne_b64_b70) (own_AB hI64 hbs.2.2.2.2.1) (own_cp34 hI64) f77 hwC) (by decide) (by decide) f72 (g := (mkF m 33 #[rv a0] [(.ref a70), (.ref b1)])) rfl (by rw [hml]; rfl) (argsL := [(.ref a70)]) (rest := []) (lenOf pd__Ljava_lang_String_Ljava_lang_StringBuilder_ rfl) rfl (Y 14 rfl) rfl e70 (by decide : 12 + 1 ≤ _) (by decide : 688 + 140 ≤ _)
 obtain ⟨rfl, N78q, b78, gn78, K78, Db78, ga78, gc78, gb78⟩ := hQ78
 have N78 := Fr.app N64 N78q
 have e78 : T78.heap = T78.heap := rfl
 have f79 := ((f65.keep K64).ext E70)
 have ne_a0_b78 : a0 ≠ b78 := own_or gb78 ne_a0_b64 (Nat.ne_of_lt ∘ Nat.lt_of_lt_of_le f79.lt)
 have ne_b1_b78 : b1 ≠ b78 := own_or gb78 ne_b1_b64 (Nat.ne_of_lt ∘ Nat.lt_of_lt_of_le f72.lt)
 have f80 := ((f66.keep K64 (ninS ne_bb_b1 (ninS ne_bb_b49 nin0))).ext E70)
 have ne_bb_b78 : bb ≠ b78 := own_or gb78 ne_bb_b64 (Nat.ne_of_lt ∘ Nat.lt_of_lt_of_le f80.lt)
 have f81 := ((f61.keep K64 (ninS ne_dO_b1 (ninS ne_dO_b49 nin0))).ext E70)
 have ne_dO_b78 : dO ≠ b78 := own_or gb78 ne_dO_b64 (Nat.ne_of_lt ∘ Nat.lt_of_lt_of_le f81.lt)
 have f82 := ((f62.keep K64 (ninS ne_dX_b1 (ninS ne_dX_b49 nin0))).ext E70)
 have ne_dX_b78 : dX ≠ b78 := own_or gb78 ne_dX_b64 (Nat.ne_of_lt ∘ Nat.lt_of_lt_of_le f82.lt)
 have f83 := ((f67.keep K64).ext E70)
 have ne_sa_b78 : sa ≠ b78 := own_or gb78 ne_sa_b64 (Nat.ne_of_lt ∘ Nat.lt_of_lt_of_le f83.lt)
 have f84 := ((f68.keep K64 (ninS ne_sb_b1 (ninS ne_sb_b49 nin0))).ext E70)
 have ne_sb_b78 : sb ≠ b78 := own_or gb78 ne_sb_b64 (Nat.ne_of_lt ∘ Nat.lt_of_lt_of_le f84.lt)
 have ge_b78 : n0 ≤ b78 := own_ge gb78 ge_b64 Z70
 have sz_b78 : h0.size ≤ b78 := own_ge gb78 sz_b64 K70.1
 have sf78_b78 := own_sor gb78 sf70_b64
 have sf85_b1 := Safe.keep K78 (allS sf70_b1 (allS sf70_b64 all0)) Rr70.1 sf70_b1
 have sf85_b64 := Safe.keep K78 (allS sf70_b1 (allS sf70_b64 all0)) Rr70.1 sf70_b64
 have sf85_b78 := Safe.keep K78 (allS sf70_b1 (allS sf70_b64 all0)) Rr70.1 sf78_b78
 have Rr85 := Rr70.trans (CHr.keep K78 (allS sf70_b1 (allS sf70_b64 all0)) Rr70.1)
 have Zk78 : n0 ≤ T78.heap.size := Nat.le_trans Z70 K78.1
 have Kk78 : Keep h0 T78.heap [] := K70.trans K78 (allS (Or.inr sz_b1) (allS (Or.inr sz_b64) all0))
 obtain ⟨cp78, hcp78⟩ : ∃ z, z = own_gr cp64 (((((0 + 8) + nt) + 10) + own_sz y.toInt) + 6) := ⟨_, rfl⟩
 rw [← hcp78] at Db78
 have hI78 : (cp78 = 34 ∧ (((((0 + 8) + nt) + 10) + own_sz y.toInt) + 6) ≤ 34) ∨ cp78 = 70 := by rw [hcp78]; exact own_stC (own_or34 hI64) hbs.2.2.2.2.1
 have sg78_0 : ∀ i, i < 8 → gn78 (0 + i) = own_t0 i := fun i hi => (ga78 _ (own_ltS hi (Nat.le_trans (Nat.le_trans (Nat.le_trans (Nat.le_refl _) (Nat.le_add_right _ _)) (Nat.le_add_right _ _)) (Nat.le_add_right _ _)))).trans (sg64_0 i hi)
 have sg78_1 : ∀ i, i < nt → gn78 ((0 + 8) + i) = gt i := fun i hi => (ga78 _ (own_ltS hi (Nat.le_trans (Nat.le_trans (Nat.le_refl _) (Nat.le_add_right _ _)) (Nat.le_add_right _ _)))).trans (sg64_1 i hi)
 have sg78_2 : ∀ i, i < 10 → gn78 (((0 + 8) + nt) + i) = own_t1 i := fun i hi => (ga78 _ (own_ltS hi (Nat.le_trans (Nat.le_refl _) (Nat.le_add_right _ _)))).trans (sg64_2 i hi)
 have sg78_3 : ∀ i, i < own_sz y.toInt → gn78 ((((0 + 8) + nt) + 10) + i) = (own_num y.toInt) i := fun i hi => (ga78 _ (own_ltS hi (Nat.le_refl _))).trans (gc64 i hi)
 have f86 := ((((((((((hmDu.ext E1).keep K4 (ninS ne_a0_b1 nin0)).ext E12).keep K20 (ninS ne_a0_b1 (ninS ne_a0_b4 nin0))).keep K35 (ninS ne_a0_b1 (ninS ne_a0_b20 nin0))).ext E41).keep K49 (ninS ne_a0_b1 (ninS ne_a0_b35 nin0))).keep K64 (ninS ne_a0_b1 (ninS ne_a0_b49 nin0))).ext E70).keep K78 (ninS ne_a0_b1 (ninS ne_a0_b64 nin0)))
 obtain ⟨T87, X87, e87, st87⟩ := getF X78 hx hZ hown (host := "") (Or.inl (oq hw 40 rfl)) Via.refl e78 f86 (g := (mkF m 37 #[rv a0] [(.ref a0), (.ref b1)])) rfl rfl (Y 16 rfl)
 have f88 := (own_stak ((own_stak f59 K64 (allS (own_exns Db49.E) (allS Db49.A.ns all0))).ext E70) K78 (allS (own_exns f72) (allS f73.ns all0)))
 have f89 := (own_stak ((own_stak f60 K64 (allS (own_exns Db49.E) (allS Db49.A.ns all0))).ext E70) K78 (allS (own_exns f72) (allS f73.ns all0)))
 have f90 := (f81.keep K78 (ninS ne_dO_b1 (ninS ne_dO_b64 nin0)))
 have f91 := (f82.keep K78 (ninS ne_dX_b1 (ninS ne_dX_b64 nin0)))
 have f92 := (own_stak f77 K78 (allS (own_exns f72) (allS f73.ns all0)))
 obtain ⟨_, T93, Lc93, X93, hQ93, st93⟩ := own_virtual (W := 0) (y := mN32) (z := mN32) X87 hx hZ hown (oq hw 163 rfl) (oq hw 164 rfl) (notFace_of_selects (args := #[]) (mvT hZ (oq hw 166 rfl))) (oq hw 166 rfl) (oq hw 165 rfl) (oq hw 167 rfl) (oq hw 49 rfl) (by decide) (rmBpJ l Z av0 hw [] b1 b78 cp78 (((((0 + 8) + nt) + 10) + own_sz y.toInt) + 6) gn78 dt dO dX wC T78.heap n0 Zk78 (own_Bd.mk Db78.E Db78.C Db78.V Db78.N Db78.A) ne_b1_b78 ge_b1 ge_b78 f88 f89 f90 f91 ne_dO_b78 ne_dX_b78 ne_dO_b1 ne_dX_b1 (own_AB hI78 hbs.2.2.2.2.2.1) (own_cp34 hI78) f92 hwC) (by decide) (by decide) Db78.E (g := (mkF m 40 #[rv a0] [(.long dt), (.ref b1)])) rfl (by rw [hml]; rfl) (argsL := [(.long dt)]) (rest := []) (lenOf pd__J_Ljava_lang_StringBuilder_ rfl) rfl (Y 17 rfl) rfl e87 (by decide : 13 + 1 ≤ _) (by decide : 828 + 140 ≤ _)
 obtain ⟨rfl, N93q, b93, gn93, K93, Db93, ga93, gc93, gb93⟩ := hQ93
 have N93 := Fr.app N78 N93q
 have e93 : T93.heap = T93.heap := rfl
 have f94 := (f79.keep K78)
 have ne_a0_b93 : a0 ≠ b93 := own_or gb93 ne_a0_b78 (Nat.ne_of_lt ∘ Nat.lt_of_lt_of_le f94.lt)
 have ne_b1_b93 : b1 ≠ b93 := own_or gb93 ne_b1_b78 (Nat.ne_of_lt ∘ Nat.lt_of_lt_of_le Db78.E.lt)
 have f95 := (f80.keep K78 (ninS ne_bb_b1 (ninS ne_bb_b64 nin0)))
 have ne_bb_b93 : bb ≠ b93 := own_or gb93 ne_bb_b78 (Nat.ne_of_lt ∘ Nat.lt_of_lt_of_le f95.lt)
 have ne_dO_b93 : dO ≠ b93 := own_or gb93 ne_dO_b78 (Nat.ne_of_lt ∘ Nat.lt_of_lt_of_le f90.lt)
 have ne_dX_b93 : dX ≠ b93 := own_or gb93 ne_dX_b78 (Nat.ne_of_lt ∘ Nat.lt_of_lt_of_le f91.lt)
 have f96 := (f83.keep K78)
 have ne_sa_b93 : sa ≠ b93 := own_or gb93 ne_sa_b78 (Nat.ne_of_lt ∘ Nat.lt_of_lt_of_le f96.lt)
 have f97 := (f84.keep K78 (ninS ne_sb_b1 (ninS ne_sb_b64 nin0)))
 have ne_sb_b93 : sb ≠ b93 := own_or gb93 ne_sb_b78 (Nat.ne_of_lt ∘ Nat.lt_of_lt_of_le f97.lt)
 have ge_b93 : n0 ≤ b93 := own_ge gb93 ge_b78 Zk78
 have sz_b93 : h0.size ≤ b93 := own_ge gb93 sz_b78 Kk78.1
 have sf93_b93 := own_sor gb93 sf85_b78
 have sf98_b1 := Safe.keep K93 (allS sf85_b1 (allS sf85_b78 all0)) Rr85.1 sf85_b1
 have sf98_b78 := Safe.keep K93 (allS sf85_b1 (allS sf85_b78 all0)) Rr85.1 sf85_b78
 have sf98_b93 := Safe.keep K93 (allS sf85_b1 (allS sf85_b78 all0)) Rr85.1 sf93_b93
 have Rr98 := Rr85.trans (CHr.keep K93 (allS sf85_b1 (allS sf85_b78 all0)) Rr85.1)
 have Zk93 : n0 ≤ T93.heap.size := Nat.le_trans Zk78 K93.1
 have Kk93 : Keep h0 T93.heap [] := Kk78.trans K93 (allS (Or.inr sz_b1) (allS (Or.inr sz_b78) all0))
 obtain ⟨cp93, hcp93⟩ : ∃ z, z = own_gr cp78 ((((((0 + 8) + nt) + 10) + own_sz y.toInt) + 6) + own_sz dt.toInt) := ⟨_, rfl⟩
 rw [← hcp93] at Db93
 have hI93 : (cp93 = 34 ∧ ((((((0 + 8) + nt) + 10) + own_sz y.toInt) + 6) + own_sz dt.toInt) ≤ 34) ∨ cp93 = 70 := by rw [hcp93]; exact own_stC (own_or34 hI78) hbs.2.2.2.2.2.1
 have sg93_0 : ∀ i, i < 8 → gn93 (0 + i) = own_t0 i := fun i hi => (ga93 _ (own_ltS hi (Nat.le_trans (Nat.le_trans (Nat.le_trans (Nat.le_trans (Nat.le_refl _) (Nat.le_add_right _ _)) (Nat.le_add_right _ _)) (Nat.le_add_right _ _)) (Nat.le_add_right _ _)))).trans (sg78_0 i hi)
 have sg93_1 : ∀ i, i < nt → gn93 ((0 + 8) + i) = gt i := fun i hi => (ga93 _ (own_ltS hi (Nat.le_trans (Nat.le_trans (Nat.le_trans (Nat.le_refl _) (Nat.le_add_right _ _)) (Nat.le_add_right _ _)) (Nat.le_add_right _ _)))).trans (sg78_1 i hi)
 have sg93_2 : ∀ i, i < 10 → gn93 (((0 + 8) + nt) + i) = own_t1 i := fun i hi => (ga93 _ (own_ltS hi (Nat.le_trans (Nat.le_trans (Nat.le_refl _) (Nat.le_add_right _ _)) (Nat.le_add_right _ _)))).trans (sg78_2 i hi)
 have sg93_3 : ∀ i, i < own_sz y.toInt → gn93 ((((0 + 8) + nt) + 10) + i) = (own_num y.toInt) i := fun i hi => (ga93 _ (own_ltS hi (Nat.le_trans (Nat.le_refl _) (Nat.le_add_right _ _)))).trans (sg78_3 i hi)
 have sg93_4 : ∀ i, i < 6 → gn93 (((((0 + 8) + nt) + 10) + own_sz y.toInt) + i) = own_t2 i := fun i hi => (ga93 _ (own_ltS hi (Nat.le_refl _))).trans (gc78 i hi)
 have S100 : ∀ tz, oS p e below T93 (mkF m 43 #[rv a0] [(.ref b1)]) tz → P0 tz := fun tz kz => S71 tz (by
  refine st70 _ ?_
  refine st78 _ ?_
  refine XS.aloadN X78.here hx rfl (Y 15 rfl) rfl rfl ?_
  refine st87 _ ?_
  refine st93 _ ?_
  exact kz)
 obtain ⟨a99, T99, h99, ks99, b99, k99, X99, e99, E99, hS99, hk99, hZ, hown, Ea99, Fc99, Fv99, Av99, la99, lb99, R99, Li99, sn99, st99⟩ := ldcCH (s := s) (vm0 := T70.vm) (show Stand p l e _ (s.setVm T70.vm) m _ below meth c _ _ _ _ from X93) hx hZ hown (oq hw 182 rfl) (own_wS hw) e93 hS70 (Nat.le_trans (Nat.le_trans hk70 K78.1) K93.1) (own_EW hw) (List.mem_of_getElem? (i := 5) rfl : _ ∈ consts_1) Rr98.1 (vs := own_vl 2 own_t3) (z := own_n 2) own_e3 (own_nge (by decide)) (by rw [own_vlen]; exact own_nc (by decide)) (g := (mkF m 43 #[rv a0] [(.ref b1)])) rfl (Y 18 rfl) (n := 8) (by decide) (by decide) (by decide) (by decide)
 have sf99_b1 := R99.safe Db93.E.lt sf98_b1
 have ne_b1_a99 : b1 ≠ a99 := (sn99 _ sf99_b1).1
 have ne_b1_b99 : b1 ≠ b99 := (sn99 _ sf99_b1).2
 have sf99_b93 := R99.safe Db93.A.lt sf98_b93
 have ne_b93_a99 : b93 ≠ a99 := (sn99 _ sf99_b93).1
 have ne_b93_b99 : b93 ≠ b99 := (sn99 _ sf99_b93).2
 have Rr99 := Rr98.trans R99
 have Z99 : n0 ≤ h99.size := Nat.le_trans Zk93 E99.1
 have K99 : Keep h0 h99 [] := Kk93.ext E99
 have Ds99 : own_Str Z h99 a99 b99 2 own_t3 := own_Str.mk Ea99 Fc99 Fv99 ⟨_, Av99⟩
 have f101 := (Db93.E.ext E99)
 have f102 := (Db93.A.ext E99)
 have f103 := (Db93.C.ext E99)
 have f104 := (Db93.V.ext E99)
 have f105 := (Db93.N.ext E99)
 have f106 := ((own_stak f92 K93 (allS (own_exns Db78.E) (allS Db78.A.ns all0))).ext E99)
 obtain ⟨_, T107, Lc107, X107, hQ107, st107⟩ := own_virtual (W := 0) (y := mN12) (z := mN12) X99 hx hZ hown (oq hw 66 rfl) (oq hw 67 rfl) (notFace_of_selects (args := #[]) (mvT hZ (oq hw 69 rfl))) (oq hw 69 rfl) (oq hw 68 rfl) (oq hw 70 rfl) (oq hw 49 rfl) (by decide) (rmSA l Z av0 hw [] b1 b93 cp93 ((((((0 + 8) + nt) + 10) + own_sz y.toInt) + 6) + own_sz dt.toInt) gn93 a99 b99 2 own_t3 wC h99 n0 Z99 (own_Bd.mk f101 f103 f104 f105 f102) ne_b1_b93 ge_b1 ge_b93 (own_Str.mk Ds99.E Ds99.C Ds99.V Ds99.A) (Ne.symm ne_b1_a99) (Ne.symm ne_b1_b99) (Ne.symm ne_b93_a99) (Ne.symm ne_b93_b99) (own_AB hI93 hbs.2.2.2.2.2.2.1) (own_cp34 hI93) f106 hwC) (by decide) (by decide) f101 (g := (mkF m 45 #[rv a0] [(.ref a99), (.ref b1)])) rfl (by rw [hml]; rfl) (argsL := [(.ref a99)]) (rest := []) (lenOf pd__Ljava_lang_String_Ljava_lang_StringBuilder_ rfl) rfl (Y 19 rfl) rfl e99 (by decide : 16 + 1 ≤ _) (by decide : 980 + 140 ≤ _)
 obtain ⟨rfl, N107q, b107, gn107, K107, Db107, ga107, gc107, gb107⟩ := hQ107
 have N107 := Fr.app N93 N107q
 have e107 : T107.heap = T107.heap := rfl
 have f108 := ((f94.keep K93).ext E99)
 have ne_a0_b107 : a0 ≠ b107 := own_or gb107 ne_a0_b93 (Nat.ne_of_lt ∘ Nat.lt_of_lt_of_le f108.lt)
 have ne_b1_b107 : b1 ≠ b107 := own_or gb107 ne_b1_b93 (Nat.ne_of_lt ∘ Nat.lt_of_lt_of_le f101.lt)
 have f109 := ((f95.keep K93 (ninS ne_bb_b1 (ninS ne_bb_b78 nin0))).ext E99)
 have ne_bb_b107 : bb ≠ b107 := own_or gb107 ne_bb_b93 (Nat.ne_of_lt ∘ Nat.lt_of_lt_of_le f109.lt)
 have f110 := ((f90.keep K93 (ninS ne_dO_b1 (ninS ne_dO_b78 nin0))).ext E99)
 have ne_dO_b107 : dO ≠ b107 := own_or gb107 ne_dO_b93 (Nat.ne_of_lt ∘ Nat.lt_of_lt_of_le f110.lt)
 have f111 := ((f91.keep K93 (ninS ne_dX_b1 (ninS ne_dX_b78 nin0))).ext E99)
 have ne_dX_b107 : dX ≠ b107 := own_or gb107 ne_dX_b93 (Nat.ne_of_lt ∘ Nat.lt_of_lt_of_le f111.lt)
 have f112 := ((f96.keep K93).ext E99)
 have ne_sa_b107 : sa ≠ b107 := own_or gb107 ne_sa_b93 (Nat.ne_of_lt ∘ Nat.lt_of_lt_of_le f112.lt)
 have f113 := ((f97.keep K93 (ninS ne_sb_b1 (ninS ne_sb_b78 nin0))).ext E99)
 have ne_sb_b107 : sb ≠ b107 := own_or gb107 ne_sb_b93 (Nat.ne_of_lt ∘ Nat.lt_of_lt_of_le f113.lt)
 have ge_b107 : n0 ≤ b107 := own_ge gb107 ge_b93 Z99
 have sz_b107 : h0.size ≤ b107 := own_ge gb107 sz_b93 K99.1
 have sf107_b107 := own_sor gb107 sf99_b93
 have sf114_b1 := Safe.keep K107 (allS sf99_b1 (allS sf99_b93 all0)) Rr99.1 sf99_b1
 have sf114_b93 := Safe.keep K107 (allS sf99_b1 (allS sf99_b93 all0)) Rr99.1 sf99_b93
 have sf114_b107 := Safe.keep K107 (allS sf99_b1 (allS sf99_b93 all0)) Rr99.1 sf107_b107
 have Rr114 := Rr99.trans (CHr.keep K107 (allS sf99_b1 (allS sf99_b93 all0)) Rr99.1)
 have Zk107 : n0 ≤ T107.heap.size := Nat.le_trans Z99 K107.1
 have Kk107 : Keep h0 T107.heap [] := K99.trans K107 (allS (Or.inr sz_b1) (allS (Or.inr sz_b93) all0))
 obtain ⟨cp107, hcp107⟩ : ∃ z, z = own_gr cp93 (((((((0 + 8) + nt) + 10) + own_sz y.toInt) + 6) + own_sz dt.toInt) + 2) := ⟨_, rfl⟩
 rw [← hcp107] at Db107
 have hI107 : (cp107 = 34 ∧ (((((((0 + 8) + nt) + 10) + own_sz y.toInt) + 6) + own_sz dt.toInt) + 2) ≤ 34) ∨ cp107 = 70 := by rw [hcp107]; exact own_stC (own_or34 hI93) hbs.2.2.2.2.2.2.1
 have sg107_0 : ∀ i, i < 8 → gn107 (0 + i) = own_t0 i := fun i hi => (ga107 _ (own_ltS hi (Nat.le_trans (Nat.le_trans (Nat.le_trans (Nat.le_trans (Nat.le_trans (Nat.le_refl _) (Nat.le_add_right _ _)) (Nat.le_add_right _ _)) (Nat.le_add_right _ _)) (Nat.le_add_right _ _)) (Nat.le_add_right _ _)))).trans (sg93_0 i hi)
 have sg107_1 : ∀ i, i < nt → gn107 ((0 + 8) + i) = gt i := fun i hi => (ga107 _ (own_ltS hi (Nat.le_trans (Nat.le_trans (Nat.le_trans (Nat.le_trans (Nat.le_refl _) (Nat.le_add_right _ _)) (Nat.le_add_right _ _)) (Nat.le_add_right _ _)) (Nat.le_add_right _ _)))).trans (sg93_1 i hi)
 have sg107_2 : ∀ i, i < 10 → gn107 (((0 + 8) + nt) + i) = own_t1 i := fun i hi => (ga107 _ (own_ltS hi (Nat.le_trans (Nat.le_trans (Nat.le_trans (Nat.le_refl _) (Nat.le_add_right _ _)) (Nat.le_add_right _ _)) (Nat.le_add_right _ _)))).trans (sg93_2 i hi)
 have sg107_3 : ∀ i, i < own_sz y.toInt → gn107 ((((0 + 8) + nt) + 10) + i) = (own_num y.toInt) i := fun i hi => (ga107 _ (own_ltS hi (Nat.le_trans (Nat.le_trans (Nat.le_refl _) (Nat.le_add_right _ _)) (Nat.le_add_right _ _)))).trans (sg93_3 i hi)
 have sg107_4 : ∀ i, i < 6 → gn107 (((((0 + 8) + nt) + 10) + own_sz y.toInt) + i) = own_t2 i := fun i hi => (ga107 _ (own_ltS hi (Nat.le_trans (Nat.le_refl _) (Nat.le_add_right _ _)))).trans (sg93_4 i hi)
 have sg107_5 : ∀ i, i < own_sz dt.toInt → gn107 ((((((0 + 8) + nt) + 10) + own_sz y.toInt) + 6) + i) = (own_num dt.toInt) i := fun i hi => (ga107 _ (own_ltS hi (Nat.le_refl _))).trans (gc93 i hi)
 have f115 := (((((((((((((hmBo.ext E1).keep K4 (ninS ne_a0_b1 nin0)).ext E12).keep K20 (ninS ne_a0_b1 (ninS ne_a0_b4 nin0))).keep K35 (ninS ne_a0_b1 (ninS ne_a0_b20 nin0))).ext E41).keep K49 (ninS ne_a0_b1 (ninS ne_a0_b35 nin0))).keep K64 (ninS ne_a0_b1 (ninS ne_a0_b49 nin0))).ext E70).keep K78 (ninS ne_a0_b1 (ninS ne_a0_b64 nin0))).keep K93 (ninS ne_a0_b1 (ninS ne_a0_b78 nin0))).ext E99).keep K107 (ninS ne_a0_b1 (ninS ne_a0_b93 nin0)))
 obtain ⟨T116, X116, e116, st116⟩ := getF X107 hx hZ hown (host := "") (Or.inl (oq hw 36 rfl)) Via.refl e107 f115 (g := (mkF m 49 #[rv a0] [(.ref a0), (.ref b1)])) rfl rfl (Y 21 rfl)
 have f117 := (f109.keep K107 (ninS ne_bb_b1 (ninS ne_bb_b93 nin0)))
 obtain ⟨kc118, cl118, Ar118, qk118, Sz118, Ng118, Hs118, Gs118⟩ := id f117
 have f119 := (own_stak ((own_stak f88 K93 (allS (own_exns Db78.E) (allS Db78.A.ns all0))).ext E99) K107 (allS (own_exns f101) (allS f102.ns all0)))
 have f120 := (own_stak ((own_stak f89 K93 (allS (own_exns Db78.E) (allS Db78.A.ns all0))).ext E99) K107 (allS (own_exns f101) (allS f102.ns all0)))
 have f121 := (f110.keep K107 (ninS ne_dO_b1 (ninS ne_dO_b93 nin0)))
 have f122 := (f111.keep K107 (ninS ne_dX_b1 (ninS ne_dX_b93 nin0)))
 have f123 := (own_stak f106 K107 (allS (own_exns f101) (allS f102.ns all0)))
 obtain ⟨_, T124, Lc124, X124, hQ124, st124⟩ := own_virtual (W := 0) (y := mN30) (z := mN30) X116 hx hZ hown (oq hw 140 rfl) (oq hw 141 rfl) (notFace_of_selects (args := #[]) (mvT hZ (oq hw 143 rfl))) (oq hw 143 rfl) (oq hw 142 rfl) (oq hw 144 rfl) (oq hw 49 rfl) (by decide) (rmBpI l Z av0 hw [] b1 b107 cp107 (((((((0 + 8) + nt) + 10) + own_sz y.toInt) + 6) + own_sz dt.toInt) + 2) gn107 (own_n nb) dO dX wC T107.heap n0 Zk107 (own_Bd.mk Db107.E Db107.C Db107.V Db107.N Db107.A) ne_b1_b107 ge_b1 ge_b107 f119 f120 f121 f122 ne_dO_b107 ne_dX_b107 ne_dO_b1 ne_dX_b1 (own_AB hI107 hbs.2.2.2.2.2.2.2.1) (own_cp34 hI107) f123 hwC) (by decide) (by decide) Db107.E (g := (mkF m 53 #[rv a0] [(.int (own_n nb)), (.ref b1)])) rfl (by rw [hml]; rfl) (argsL := [(.int (own_n nb))]) (rest := []) (lenOf pd__I_Ljava_lang_StringBuilder_ rfl) rfl (Y 23 rfl) rfl e116 (by decide : 17 + 1 ≤ _) (by decide : 1120 + 140 ≤ _)
 obtain ⟨rfl, N124q, b124, gn124, K124, Db124, ga124, gc124, gb124⟩ := hQ124
 have N124 := Fr.app N107 N124q
 have e124 : T124.heap = T124.heap := rfl
 have f125 := (f108.keep K107)
 have ne_a0_b124 : a0 ≠ b124 := own_or gb124 ne_a0_b107 (Nat.ne_of_lt ∘ Nat.lt_of_lt_of_le f125.lt)
 have ne_b1_b124 : b1 ≠ b124 := own_or gb124 ne_b1_b107 (Nat.ne_of_lt ∘ Nat.lt_of_lt_of_le Db107.E.lt)
 have ne_bb_b124 : bb ≠ b124 := own_or gb124 ne_bb_b107 (Nat.ne_of_lt ∘ Nat.lt_of_lt_of_le f117.lt)
 have ne_dO_b124 : dO ≠ b124 := own_or gb124 ne_dO_b107 (Nat.ne_of_lt ∘ Nat.lt_of_lt_of_le f121.lt)
 have ne_dX_b124 : dX ≠ b124 := own_or gb124 ne_dX_b107 (Nat.ne_of_lt ∘ Nat.lt_of_lt_of_le f122.lt)
 have f126 := (f112.keep K107)
 have ne_sa_b124 : sa ≠ b124 := own_or gb124 ne_sa_b107 (Nat.ne_of_lt ∘ Nat.lt_of_lt_of_le f126.lt)
 have f127 := (f113.keep K107 (ninS ne_sb_b1 (ninS ne_sb_b93 nin0)))
 have ne_sb_b124 : sb ≠ b124 := own_or gb124 ne_sb_b107 (Nat.ne_of_lt ∘ Nat.lt_of_lt_of_le f127.lt)
 have ge_b124 : n0 ≤ b124 := own_ge gb124 ge_b107 Zk107
 have sz_b124 : h0.size ≤ b124 := own_ge gb124 sz_b107 Kk107.1
 have sf124_b124 := own_sor gb124 sf114_b107
 have sf128_b1 := Safe.keep K124 (allS sf114_b1 (allS sf114_b107 all0)) Rr114.1 sf114_b1
 have sf128_b107 := Safe.keep K124 (allS sf114_b1 (allS sf114_b107 all0)) Rr114.1 sf114_b107
 have sf128_b124 := Safe.keep K124 (allS sf114_b1 (allS sf114_b107 all0)) Rr114.1 sf124_b124
 have Rr128 := Rr114.trans (CHr.keep K124 (allS sf114_b1 (allS sf114_b107 all0)) Rr114.1)
 have Zk124 : n0 ≤ T124.heap.size := Nat.le_trans Zk107 K124.1
 have Kk124 : Keep h0 T124.heap [] := Kk107.trans K124 (allS (Or.inr sz_b1) (allS (Or.inr sz_b107) all0))
 obtain ⟨cp124, hcp124⟩ : ∃ z, z = own_gr cp107 ((((((((0 + 8) + nt) + 10) + own_sz y.toInt) + 6) + own_sz dt.toInt) + 2) + own_sz (own_n nb).toInt) := ⟨_, rfl⟩
 rw [← hcp124] at Db124
 have hI124 : (cp124 = 34 ∧ ((((((((0 + 8) + nt) + 10) + own_sz y.toInt) + 6) + own_sz dt.toInt) + 2) + own_sz (own_n nb).toInt) ≤ 34) ∨ cp124 = 70 := by rw [hcp124]; exact own_stC (own_or34 hI107) hbs.2.2.2.2.2.2.2.1
 have sg124_0 : ∀ i, i < 8 → gn124 (0 + i) = own_t0 i := fun i hi => (ga124 _ (own_ltS hi (Nat.le_trans (Nat.le_trans (Nat.le_trans (Nat.le_trans (Nat.le_trans (Nat.le_trans (Nat.le_refl _) (Nat.le_add_right _ _)) (Nat.le_add_right _ _)) (Nat.le_add_right _ _)) (Nat.le_add_right _ _)) (Nat.le_add_right _ _)) (Nat.le_add_right _ _)))).trans (sg107_0 i hi)
 have sg124_1 : ∀ i, i < nt → gn124 ((0 + 8) + i) = gt i := fun i hi => (ga124 _ (own_ltS hi (Nat.le_trans (Nat.le_trans (Nat.le_trans (Nat.le_trans (Nat.le_trans (Nat.le_refl _) (Nat.le_add_right _ _)) (Nat.le_add_right _ _)) (Nat.le_add_right _ _)) (Nat.le_add_right _ _)) (Nat.le_add_right _ _)))).trans (sg107_1 i hi)
 have sg124_2 : ∀ i, i < 10 → gn124 (((0 + 8) + nt) + i) = own_t1 i := fun i hi => (ga124 _ (own_ltS hi (Nat.le_trans (Nat.le_trans (Nat.le_trans (Nat.le_trans (Nat.le_refl _) (Nat.le_add_right _ _)) (Nat.le_add_right _ _)) (Nat.le_add_right _ _)) (Nat.le_add_right _ _)))).trans (sg107_2 i hi)
 have sg124_3 : ∀ i, i < own_sz y.toInt → gn124 ((((0 + 8) + nt) + 10) + i) = (own_num y.toInt) i := fun i hi => (ga124 _ (own_ltS hi (Nat.le_trans (Nat.le_trans (Nat.le_trans (Nat.le_refl _) (Nat.le_add_right _ _)) (Nat.le_add_right _ _)) (Nat.le_add_right _ _)))).trans (sg107_3 i hi)
 have sg124_4 : ∀ i, i < 6 → gn124 (((((0 + 8) + nt) + 10) + own_sz y.toInt) + i) = own_t2 i := fun i hi => (ga124 _ (own_ltS hi (Nat.le_trans (Nat.le_trans (Nat.le_refl _) (Nat.le_add_right _ _)) (Nat.le_add_right _ _)))).trans (sg107_4 i hi)
 have sg124_5 : ∀ i, i < own_sz dt.toInt → gn124 ((((((0 + 8) + nt) + 10) + own_sz y.toInt) + 6) + i) = (own_num dt.toInt) i := fun i hi => (ga124 _ (own_ltS hi (Nat.le_trans (Nat.le_refl _) (Nat.le_add_right _ _)))).trans (sg107_5 i hi)
 have sg124_6 : ∀ i, i < 2 → gn124 (((((((0 + 8) + nt) + 10) + own_sz y.toInt) + 6) + own_sz dt.toInt) + i) = own_t3 i := fun i hi => (ga124 _ (own_ltS hi (Nat.le_refl _))).trans (gc107 i hi)
 have S130 : ∀ tz, oS p e below T124 (mkF m 56 #[rv a0] [(.ref b1)]) tz → P0 tz := fun tz kz => S100 tz (by
  refine st99 _ ?_
  refine st107 _ ?_
  show oS p e below T107 (mkF m 48 #[rv a0] [(.ref b1)]) _
  refine XS.aloadN X107.here hx rfl (Y 20 rfl) rfl rfl ?_
  refine st116 _ ?_
  refine X116.arraylength hx (by rw [e116]; exact Ar118.1) (State.isArrayOf_alike hZ.alike Ar118.2.1) (g := (mkF m 52 #[rv a0] [(.ref bb), (.ref b1)])) rfl rfl (Y 22 rfl) _ ?_
  rw [len_of Sz118 Ng118]
  refine st124 _ ?_
  exact kz)
 obtain ⟨a129, T129, h129, ks129, b129, k129, X129, e129, E129, hS129, hk129, hZ, hown, Ea129, Fc129, Fv129, Av129, la129, lb129, R129, Li129, sn129, st129⟩ := ldcCH (s := s) (vm0 := T99.vm) (show Stand p l e _ (s.setVm T99.vm) m _ below meth c _ _ _ _ from X124) hx hZ hown (oq hw 183 rfl) (own_wS hw) e124 hS99 (Nat.le_trans (Nat.le_trans hk99 K107.1) K124.1) (own_EW hw) (List.mem_of_getElem? (i := 6) rfl : _ ∈ consts_1) Rr128.1 (vs := own_vl 7 own_t4) (z := own_n 7) own_e4 (own_nge (by decide)) (by rw [own_vlen]; exact own_nc (by decide)) (g := (mkF m 56 #[rv a0] [(.ref b1)])) rfl (Y 24 rfl) (n := 28) (by decide) (by decide) (by decide) (by decide)
 have sf129_b1 := R129.safe Db124.E.lt sf128_b1
 have ne_b1_a129 : b1 ≠ a129 := (sn129 _ sf129_b1).1
 have ne_b1_b129 : b1 ≠ b129 := (sn129 _ sf129_b1).2
 have sf129_b124 := R129.safe Db124.A.lt sf128_b124
 have ne_b124_a129 : b124 ≠ a129 := (sn129 _ sf129_b124).1
 have ne_b124_b129 : b124 ≠ b129 := (sn129 _ sf129_b124).2
 have Rr129 := Rr128.trans R129
 have Z129 : n0 ≤ h129.size := Nat.le_trans Zk124 E129.1
 have K129 : Keep h0 h129 [] := Kk124.ext E129
 have Ds129 : own_Str Z h129 a129 b129 7 own_t4 := own_Str.mk Ea129 Fc129 Fv129 ⟨_, Av129⟩
 have f131 := (Db124.E.ext E129)
 have f132 := (Db124.A.ext E129)
 have f133 := (Db124.C.ext E129)
 have f134 := (Db124.V.ext E129)
 have f135 := (Db124.N.ext E129)
 have f136 := ((own_stak f123 K124 (allS (own_exns Db107.E) (allS Db107.A.ns all0))).ext E129)
 obtain ⟨_, T137, Lc137, X137, hQ137, st137⟩ := own_virtual (W := 0) (y := mN12) (z := mN12) X129 hx hZ hown (oq hw 66 rfl) (oq hw 67 rfl) (notFace_of_selects (args := #[]) (mvT hZ (oq hw 69 rfl))) (oq hw 69 rfl) (oq hw 68 rfl) (oq hw 70 rfl) (oq hw 49 rfl) (by decide) (rmSA l Z av0 hw [] b1 b124 cp124 ((((((((0 + 8) + nt) + 10) + own_sz y.toInt) + 6) + own_sz dt.toInt) + 2) + own_sz (own_n nb).toInt) gn124 a129 b129 7 own_t4 wC h129 n0 Z129 (own_Bd.mk f131 f133 f134 f135 f132) ne_b1_b124 ge_b1 ge_b124 (own_Str.mk Ds129.E Ds129.C Ds129.V Ds129.A) (Ne.symm ne_b1_a129) (Ne.symm ne_b1_b129) (Ne.symm ne_b124_a129) (Ne.symm ne_b124_b129) (own_AB hI124 hbs.2.2.2.2.2.2.2.2.1) (own_cp34 hI124) f136 hwC) (by decide) (by decide) f131 (g := (mkF m 58 #[rv a0] [(.ref a129), (.ref b1)])) rfl (by rw [hml]; rfl) (argsL := [(.ref a129)]) (rest := []) (lenOf pd__Ljava_lang_String_Ljava_lang_StringBuilder_ rfl) rfl (Y 25 rfl) rfl e129 (by decide : 20 + 1 ≤ _) (by decide : 1292 + 140 ≤ _)
 obtain ⟨rfl, N137q, b137, gn137, K137, Db137, ga137, gc137, gb137⟩ := hQ137
 have N137 := Fr.app N124 N137q
 have e137 : T137.heap = T137.heap := rfl
 have f138 := ((f125.keep K124).ext E129)
 have ne_a0_b137 : a0 ≠ b137 := own_or gb137 ne_a0_b124 (Nat.ne_of_lt ∘ Nat.lt_of_lt_of_le f138.lt)
 have ne_b1_b137 : b1 ≠ b137 := own_or gb137 ne_b1_b124 (Nat.ne_of_lt ∘ Nat.lt_of_lt_of_le f131.lt)
 have f139 := ((f117.keep K124 (ninS ne_bb_b1 (ninS ne_bb_b107 nin0))).ext E129)
 have ne_bb_b137 : bb ≠ b137 := own_or gb137 ne_bb_b124 (Nat.ne_of_lt ∘ Nat.lt_of_lt_of_le f139.lt)
 have f140 := ((f121.keep K124 (ninS ne_dO_b1 (ninS ne_dO_b107 nin0))).ext E129)
 have ne_dO_b137 : dO ≠ b137 := own_or gb137 ne_dO_b124 (Nat.ne_of_lt ∘ Nat.lt_of_lt_of_le f140.lt)
 have f141 := ((f122.keep K124 (ninS ne_dX_b1 (ninS ne_dX_b107 nin0))).ext E129)
 have ne_dX_b137 : dX ≠ b137 := own_or gb137 ne_dX_b124 (Nat.ne_of_lt ∘ Nat.lt_of_lt_of_le f141.lt)
 have f142 := ((f126.keep K124).ext E129)
 have ne_sa_b137 : sa ≠ b137 := own_or gb137 ne_sa_b124 (Nat.ne_of_lt ∘ Nat.lt_of_lt_of_le f142.lt)
 have f143 := ((f127.keep K124 (ninS ne_sb_b1 (ninS ne_sb_b107 nin0))).ext E129)
 have ne_sb_b137 : sb ≠ b137 := own_or gb137 ne_sb_b124 (Nat.ne_of_lt ∘ Nat.lt_of_lt_of_le f143.lt)
 have ge_b137 : n0 ≤ b137 := own_ge gb137 ge_b124 Z129
 have sz_b137 : h0.size ≤ b137 := own_ge gb137 sz_b124 K129.1
 have sf137_b137 := own_sor gb137 sf129_b124
 have sf144_b1 := Safe.keep K137 (allS sf129_b1 (allS sf129_b124 all0)) Rr129.1 sf129_b1
 have sf144_b124 := Safe.keep K137 (allS sf129_b1 (allS sf129_b124 all0)) Rr129.1 sf129_b124
 have sf144_b137 := Safe.keep K137 (allS sf129_b1 (allS sf129_b124 all0)) Rr129.1 sf137_b137
 have Rr144 := Rr129.trans (CHr.keep K137 (allS sf129_b1 (allS sf129_b124 all0)) Rr129.1)
 have Zk137 : n0 ≤ T137.heap.size := Nat.le_trans Z129 K137.1
 have Kk137 : Keep h0 T137.heap [] := K129.trans K137 (allS (Or.inr sz_b1) (allS (Or.inr sz_b124) all0))
 obtain ⟨cp137, hcp137⟩ : ∃ z, z = own_gr cp124 (((((((((0 + 8) + nt) + 10) + own_sz y.toInt) + 6) + own_sz dt.toInt) + 2) + own_sz (own_n nb).toInt) + 7) := ⟨_, rfl⟩
 rw [← hcp137] at Db137
 have hI137 : (cp137 = 34 ∧ (((((((((0 + 8) + nt) + 10) + own_sz y.toInt) + 6) + own_sz dt.toInt) + 2) + own_sz (own_n nb).toInt) + 7) ≤ 34) ∨ cp137 = 70 := by rw [hcp137]; exact own_stC (own_or34 hI124) hbs.2.2.2.2.2.2.2.2.1
 have sg137_0 : ∀ i, i < 8 → gn137 (0 + i) = own_t0 i := fun i hi => (ga137 _ (own_ltS hi (Nat.le_trans (Nat.le_trans (Nat.le_trans (Nat.le_trans (Nat.le_trans (Nat.le_trans (Nat.le_trans (Nat.le_refl _) (Nat.le_add_right _ _)) (Nat.le_add_right _ _)) (Nat.le_add_right _ _)) (Nat.le_add_right _ _)) (Nat.le_add_right _ _)) (Nat.le_add_right _ _)) (Nat.le_add_right _ _)))).trans (sg124_0 i hi)
 have sg137_1 : ∀ i, i < nt → gn137 ((0 + 8) + i) = gt i := fun i hi => (ga137 _ (own_ltS hi (Nat.le_trans (Nat.le_trans (Nat.le_trans (Nat.le_trans (Nat.le_trans (Nat.le_trans (Nat.le_refl _) (Nat.le_add_right _ _)) (Nat.le_add_right _ _)) (Nat.le_add_right _ _)) (Nat.le_add_right _ _)) (Nat.le_add_right _ _)) (Nat.le_add_right _ _)))).trans (sg124_1 i hi)
 have sg137_2 : ∀ i, i < 10 → gn137 (((0 + 8) + nt) + i) = own_t1 i := fun i hi => (ga137 _ (own_ltS hi (Nat.le_trans (Nat.le_trans (Nat.le_trans (Nat.le_trans (Nat.le_trans (Nat.le_refl _) (Nat.le_add_right _ _)) (Nat.le_add_right _ _)) (Nat.le_add_right _ _)) (Nat.le_add_right _ _)) (Nat.le_add_right _ _)))).trans (sg124_2 i hi)
 have sg137_3 : ∀ i, i < own_sz y.toInt → gn137 ((((0 + 8) + nt) + 10) + i) = (own_num y.toInt) i := fun i hi => (ga137 _ (own_ltS hi (Nat.le_trans (Nat.le_trans (Nat.le_trans (Nat.le_trans (Nat.le_refl _) (Nat.le_add_right _ _)) (Nat.le_add_right _ _)) (Nat.le_add_right _ _)) (Nat.le_add_right _ _)))).trans (sg124_3 i hi)
 have sg137_4 : ∀ i, i < 6 → gn137 (((((0 + 8) + nt) + 10) + own_sz y.toInt) + i) = own_t2 i := fun i hi => (ga137 _ (own_ltS hi (Nat.le_trans (Nat.le_trans (Nat.le_trans (Nat.le_refl _) (Nat.le_add_right _ _)) (Nat.le_add_right _ _)) (Nat.le_add_right _ _)))).trans (sg124_4 i hi)
 have sg137_5 : ∀ i, i < own_sz dt.toInt → gn137 ((((((0 + 8) + nt) + 10) + own_sz y.toInt) + 6) + i) = (own_num dt.toInt) i := fun i hi => (ga137 _ (own_ltS hi (Nat.le_trans (Nat.le_trans (Nat.le_refl _) (Nat.le_add_right _ _)) (Nat.le_add_right _ _)))).trans (sg124_5 i hi)
 have sg137_6 : ∀ i, i < 2 → gn137 (((((((0 + 8) + nt) + 10) + own_sz y.toInt) + 6) + own_sz dt.toInt) + i) = own_t3 i := fun i hi => (ga137 _ (own_ltS hi (Nat.le_trans (Nat.le_refl _) (Nat.le_add_right _ _)))).trans (sg124_6 i hi)
 have sg137_7 : ∀ i, i < own_sz (own_n nb).toInt → gn137 ((((((((0 + 8) + nt) + 10) + own_sz y.toInt) + 6) + own_sz dt.toInt) + 2) + i) = (own_num (own_n nb).toInt) i := fun i hi => (ga137 _ (own_ltS hi (Nat.le_refl _))).trans (gc124 i hi)
 have f145 := (own_stak f136 K137 (allS (own_exns f131) (allS f132.ns all0)))
 obtain ⟨_, T146, Lc146, X146, hQ146, st146⟩ := own_virtual (W := 0) (y := mN24) (z := mN24) X137 hx hZ hown (oq hw 184 rfl) (oq hw 185 rfl) (notFace_of_selects (args := #[]) (mvT hZ (oq hw 187 rfl))) (oq hw 187 rfl) (oq hw 186 rfl) (oq hw 188 rfl) (oq hw 49 rfl) (by decide) (rmTS l Z av0 hw [] b1 b137 cp137 (((((((((0 + 8) + nt) + 10) + own_sz y.toInt) + 6) + own_sz dt.toInt) + 2) + own_sz (own_n nb).toInt) + 7) gn137 wC T137.heap n0 Zk137 (own_Bd.mk Db137.E Db137.C Db137.V Db137.N Db137.A) (own_fin hI137 hbs.2.2.2.2.2.2.2.2.2.1 hbs.2.2.2.2.2.2.2.2.2.2.1) f145 hwC) (by decide) (by decide) Db137.E (g := (mkF m 61 #[rv a0] [(.ref b1)])) rfl (by rw [hml]; rfl) (argsL := []) (rest := []) (lenOf pd__Ljava_lang_String_ rfl) rfl (Y 26 rfl) rfl e137 (by decide : 21 + 2 ≤ _) (by decide : 1432 + 144 ≤ _)
 obtain ⟨a146, b146, rfl, N146q, K146, Ds146, ga146, gb146⟩ := hQ146
 have N146 := Fr.app N137 N146q
 have e146 : T146.heap = T146.heap := rfl
 have sf147_b1 := Safe.keep K146 all0 Rr144.1 sf144_b1
 have sf147_b137 := Safe.keep K146 all0 Rr144.1 sf144_b137
 have Rr147 := Rr144.trans (CHr.keep K146 all0 Rr144.1)
 have Zk146 : n0 ≤ T146.heap.size := Nat.le_trans Zk137 K146.1
 have Kk146 : Keep h0 T146.heap [] := Kk137.trans K146 all0
 have sg146_0 : ∀ i, i < 8 → own_cp gn137 (fun _ => 0) 0 0 (((((((((0 + 8) + nt) + 10) + own_sz y.toInt) + 6) + own_sz dt.toInt) + 2) + own_sz (own_n nb).toInt) + 7) (0 + i) = own_t0 i := fun i hi => (own_cpI (own_ltS hi (Nat.le_trans (Nat.le_trans (Nat.le_trans (Nat.le_trans (Nat.le_trans (Nat.le_trans (Nat.le_trans (Nat.le_trans (Nat.le_refl _) (Nat.le_add_right _ _)) (Nat.le_add_right _ _)) (Nat.le_add_right _ _)) (Nat.le_add_right _ _)) (Nat.le_add_right _ _)) (Nat.le_add_right _ _)) (Nat.le_add_right _ _)) (Nat.le_add_right _ _)))).trans (sg137_0 i hi)
 have sg146_1 : ∀ i, i < nt → own_cp gn137 (fun _ => 0) 0 0 (((((((((0 + 8) + nt) + 10) + own_sz y.toInt) + 6) + own_sz dt.toInt) + 2) + own_sz (own_n nb).toInt) + 7) ((0 + 8) + i) = gt i := fun i hi => (own_cpI (own_ltS hi (Nat.le_trans (Nat.le_trans (Nat.le_trans (Nat.le_trans (Nat.le_trans (Nat.le_trans (Nat.le_trans (Nat.le_refl _) (Nat.le_add_right _ _)) (Nat.le_add_right _ _)) (Nat.le_add_right _ _)) (Nat.le_add_right _ _)) (Nat.le_add_right _ _)) (Nat.le_add_right _ _)) (Nat.le_add_right _ _)))).trans (sg137_1 i hi)
 have sg146_2 : ∀ i, i < 10 → own_cp gn137 (fun _ => 0) 0 0 (((((((((0 + 8) + nt) + 10) + own_sz y.toInt) + 6) + own_sz dt.toInt) + 2) + own_sz (own_n nb).toInt) + 7) (((0 + 8) + nt) + i) = own_t1 i := fun i hi => (own_cpI (own_ltS hi (Nat.le_trans (Nat.le_trans (Nat.le_trans (Nat.le_trans (Nat.le_trans (Nat.le_trans (Nat.le_refl _) (Nat.le_add_right _ _)) (Nat.le_add_right _ _)) (Nat.le_add_right _ _)) (Nat.le_add_right _ _)) (Nat.le_add_right _ _)) (Nat.le_add_right _ _)))).trans (sg137_2 i hi)
 have sg146_3 : ∀ i, i < own_sz y.toInt → own_cp gn137 (fun _ => 0) 0 0 (((((((((0 + 8) + nt) + 10) + own_sz y.toInt) + 6) + own_sz dt.toInt) + 2) + own_sz (own_n nb).toInt) + 7) ((((0 + 8) + nt) + 10) + i) = (own_num y.toInt) i := fun i hi => (own_cpI (own_ltS hi (Nat.le_trans (Nat.le_trans (Nat.le_trans (Nat.le_trans (Nat.le_trans (Nat.le_refl _) (Nat.le_add_right _ _)) (Nat.le_add_right _ _)) (Nat.le_add_right _ _)) (Nat.le_add_right _ _)) (Nat.le_add_right _ _)))).trans (sg137_3 i hi)
 have sg146_4 : ∀ i, i < 6 → own_cp gn137 (fun _ => 0) 0 0 (((((((((0 + 8) + nt) + 10) + own_sz y.toInt) + 6) + own_sz dt.toInt) + 2) + own_sz (own_n nb).toInt) + 7) (((((0 + 8) + nt) + 10) + own_sz y.toInt) + i) = own_t2 i := fun i hi => (own_cpI (own_ltS hi (Nat.le_trans (Nat.le_trans (Nat.le_trans (Nat.le_trans (Nat.le_refl _) (Nat.le_add_right _ _)) (Nat.le_add_right _ _)) (Nat.le_add_right _ _)) (Nat.le_add_right _ _)))).trans (sg137_4 i hi)
 have sg146_5 : ∀ i, i < own_sz dt.toInt → own_cp gn137 (fun _ => 0) 0 0 (((((((((0 + 8) + nt) + 10) + own_sz y.toInt) + 6) + own_sz dt.toInt) + 2) + own_sz (own_n nb).toInt) + 7) ((((((0 + 8) + nt) + 10) + own_sz y.toInt) + 6) + i) = (own_num dt.toInt) i := fun i hi => (own_cpI (own_ltS hi (Nat.le_trans (Nat.le_trans (Nat.le_trans (Nat.le_refl _) (Nat.le_add_right _ _)) (Nat.le_add_right _ _)) (Nat.le_add_right _ _)))).trans (sg137_5 i hi)
 have sg146_6 : ∀ i, i < 2 → own_cp gn137 (fun _ => 0) 0 0 (((((((((0 + 8) + nt) + 10) + own_sz y.toInt) + 6) + own_sz dt.toInt) + 2) + own_sz (own_n nb).toInt) + 7) (((((((0 + 8) + nt) + 10) + own_sz y.toInt) + 6) + own_sz dt.toInt) + i) = own_t3 i := fun i hi => (own_cpI (own_ltS hi (Nat.le_trans (Nat.le_trans (Nat.le_refl _) (Nat.le_add_right _ _)) (Nat.le_add_right _ _)))).trans (sg137_6 i hi)
 have sg146_7 : ∀ i, i < own_sz (own_n nb).toInt → own_cp gn137 (fun _ => 0) 0 0 (((((((((0 + 8) + nt) + 10) + own_sz y.toInt) + 6) + own_sz dt.toInt) + 2) + own_sz (own_n nb).toInt) + 7) ((((((((0 + 8) + nt) + 10) + own_sz y.toInt) + 6) + own_sz dt.toInt) + 2) + i) = (own_num (own_n nb).toInt) i := fun i hi => (own_cpI (own_ltS hi (Nat.le_trans (Nat.le_refl _) (Nat.le_add_right _ _)))).trans (sg137_7 i hi)
 have sg146_8 : ∀ i, i < 7 → own_cp gn137 (fun _ => 0) 0 0 (((((((((0 + 8) + nt) + 10) + own_sz y.toInt) + 6) + own_sz dt.toInt) + 2) + own_sz (own_n nb).toInt) + 7) (((((((((0 + 8) + nt) + 10) + own_sz y.toInt) + 6) + own_sz dt.toInt) + 2) + own_sz (own_n nb).toInt) + i) = own_t4 i := fun i hi => (own_cpI (own_ltS hi (Nat.le_refl _))).trans (gc137 i hi)
 have S148 : ∀ tz, oS p e below T146 (mkF m 64 #[rv a0] [(.ref a146)]) tz → P0 tz := fun tz kz => S130 tz (by
  refine st129 _ ?_
  refine st137 _ ?_
  refine st146 _ ?_
  exact kz)
 obtain ⟨fs, hr, hrun, hended, hEnd⟩ := X146.leaveW hS129 (by rw [e146]; exact (Nat.le_trans (Nat.le_trans hk129 K137.1) K146.1)) (v := some (.ref a146)) (fun h => by rw [Bd.returns] at h; cases h)
 refine ⟨_, _, pre0 _ (S148 _ ?_), hrun, hended, _, _, rfl, ?_, (by show CHr Z consts_1 s.vm s.heap T146.vm T146.heap; rw [hh, e146]; exact Rr147.trans (CHv.at (s := s) (vm0 := T129.vm) (show Stand p l e _ (s.setVm T129.vm) m _ below meth c _ _ _ _ from X146) hZ (own_EW hw) Rr147.1)), hEnd.1, hEnd.2.1, hEnd.2.2.1, hEnd.2.2.2.mono (by decide) (by decide)⟩
 · jvm_step X146.here [X146.here.top, hx, (Y 27 rfl), X146.method', Bd.returns, Value.isRef, FieldType.isReference]
   first | (intro acts; rw [hr _ acts rfl rfl rfl]) | rw [hr _ _ rfl rfl rfl]
   exact Steps.refl _
 · show QrmMT Z a0 sa sb nt gt bb nb gB y dt dO dX wC h0 n0 _ T146.heap _
   rw [e146]
   exact ⟨a146, _, _, rfl, N146, Kk146, Ds146, sg146_0, sg146_1, sg146_2, sg146_3, sg146_4, sg146_5, sg146_6, sg146_7, sg146_8⟩
theorem own_ch (x : Int32) : ¬ (255 : Int32) < nar .char (x &&& 255).toUInt32.toUInt16.toUInt32.toInt32 := by
  have e : nar .char (x &&& 255).toUInt32.toUInt16.toUInt32.toInt32 = (x &&& 255).toUInt32.toUInt16.toUInt32.toInt32.toUInt32.toUInt16.toUInt32.toInt32 := rfl
  rw [e]
  have h := c_i2c (x &&& 255).toUInt32.toUInt16.toUInt32.toInt32
  have h1 := c_i2c (x &&& 255)
  have h2 : (x &&& 255).toInt = x.toInt % (2 ^ 8 : Nat) := c_mask x 255 8 (by decide) (by decide)
  rw [Int32.lt_iff_toInt_lt, show (255 : Int32).toInt = 255 from rfl]
  omega
theorem own_ch1 (x : Int32) : ¬ (255 : Int32) < (x &&& 255).toUInt32.toUInt16.toUInt32.toInt32 := by
  have h1 := c_i2c (x &&& 255)
  have h2 : (x &&& 255).toInt = x.toInt % (2 ^ 8 : Nat) := c_mask x 255 8 (by decide) (by decide)
  rw [Int32.lt_iff_toInt_lt, show (255 : Int32).toInt = 255 from rfl]
  omega
theorem own_dig {Z : State} {av : Array Value} {t rhs : Term} {f : Nat → Int32} (hx : (Cond.exactly t "[B").value av Z none Z [] = some true) (hl : (Cond.eq (.length t) (.int 100)).value av Z none Z [] = some true)
    (ha : (Cond.all t (.eq (.elem t (.index 0)) rhs)).value av Z none Z [] = some true) (harr : (Cond.arrayClass .byte).before av Z = true) (hidx : ∀ idx, t.eval av Z none idx Z = t.eval av Z none [] Z) (hr : ∀ r, r < 100 → rhs.eval av Z none [r] Z = some (.int (f r))) (hf : ∀ r, r < 100 → fits .byte (.int (f r)) = true) : ∃ d, t.eval av Z none [] Z = some (.ref d) ∧ own_Ab Z Z.heap d 100 f := by
  obtain ⟨d, cB, D, kB, hev, hfcB, hcellD, hkB, hstatD, hclsD, -⟩ := Cond.exactly_spec (Cond.before_iff.mpr hx)
  have hlv := Cond.eq_int (Cond.before_iff.mpr hl) (Term.int_eval 100)
  obtain ⟨d', D', hev', harrAt, hlen⟩ := Term.length_spec hlv
  cases hev.symm.trans hev'
  obtain ⟨hcellD', hknD, -, -⟩ := State.arrayAt?_spec harrAt
  cases hcellD.symm.trans hcellD'
  have h31 : D.slots.size < 2 ^ 31 := Jvm.Free.SBG.length_lt hev harrAt hlv
  have hsz : D.slots.size = 100 := by
    have h2 : Int32.ofNat D.slots.size = Int32.ofNat 100 := (Value.int.inj hlen).symm
    have := congrArg Int32.toInt h2
    rw [Int32.toInt_ofNat_small h31, Int32.toInt_ofNat_small (by omega)] at this; omega
  obtain ⟨cB', kB', comp, hnameB, hkB', hkindB⟩ := Cond.arrayClass_spec harr
  have eBA : ("[" ++ FieldType.toString .byte) = "[B" := by decide
  rw [eBA] at hnameB
  cases hfcB.symm.trans hnameB
  cases hkB.symm.trans hkB'
  have hat : ∀ r, r < 100 → D.slots[r]? = some (.int (f r)) := fun r hr' => by
    have h := Cond.all_elim hev harrAt ha r (by omega)
    have e1 : (Term.elem t (.index 0)).eval av Z none [r] Z = some (.int (f r)) := Cond.eq_int (b := rhs) (by simp [Cond.holds, h]) (hr r hr')
    have eL : (Term.elem t (.index 0)).eval av Z none [r] Z = D.slots[r]? := Jvm.Free.SBG.elem_at (ix := .index 0) ((hidx [r]).trans hev) harrAt (by omega) h31 rfl
    rw [← eL]; exact e1
  refine ⟨d, hev, D.cls, D, ⟨hcellD, ⟨(fun q z => by rw [z] at hstatD; cases hstatD), kB, (by rw [hclsD]; exact hkB), comp, hkindB⟩, hknD⟩, rfl, (by rw [hsz]; exact (own_nc (by decide)).symm), own_nge (by decide), fun k hk => ?_, fun i hi => ?_⟩
  · rw [own_vget (by omega)]; exact hat k (by omega)
  · rw [own_vget (by omega)]; exact hf i (by omega)
theorem pd__Ljava_lang_String_A_BIJ_V : parseMethodDescriptor "(Ljava/lang/String;[BIJ)V" = some ⟨[(.object "java/lang/String"), (.array .byte), .int, .long], none⟩ := by decide +kernel
theorem pd__Ljava_lang_String_ILjava_lang_String_I : parseMethodDescriptor "(Ljava/lang/String;ILjava/lang/String;)I" = some ⟨[(.object "java/lang/String"), .int, (.object "java/lang/String")], some .int⟩ := by decide +kernel
theorem pd__Ljava_lang_String_IJ_I : parseMethodDescriptor "(Ljava/lang/String;IJ)I" = some ⟨[(.object "java/lang/String"), .int, .long], some .int⟩ := by decide +kernel
theorem pd__C_Ljava_lang_String_ : parseMethodDescriptor "(C)Ljava/lang/String;" = some ⟨[.char], some (.object "java/lang/String")⟩ := by decide +kernel
theorem pd__A_C_V : parseMethodDescriptor "([C)V" = some ⟨[(.array .char)], none⟩ := by decide +kernel
def Qrm0 (Z : State) (p0 : Int32) (p1 : Int32) (q2 : Int64) (p3 : Int32) (wC : Int32) (fm : Value) (dO : Addr) (dX : Addr) (h0 : Heap) (n0 : Nat) (v : Option Value) (h : Heap) (L : List Loc) : Prop := v = some (.int 1) ∧ Fr n0 L
theorem rm0 (l : Launch) (Z : State) (av0 : Array Value) (hw : ∀ d ∈ tables_1, d.before av0 Z = true) (ws : List Jvm.Cond) (p0 : Int32) (p1 : Int32) (q2 : Int64) (p3 : Int32) (wC : Int32) (fm : Value) (dO : Addr) (dX : Addr) (h0 : Heap) (n0 : Nat) (Z0 : n0 ≤ h0.size) (hSC : Sta Z h0 "java/lang/String" "COMPACT_STRINGS" "Z" (.int wC)) (hwC : ¬ wC = (0 : Int32)) (hfm : fm.isRef = true) (hFm : Sta Z h0 "jdk/internal/util/Preconditions" "SIOOBE_FORMATTER" "Ljava/util/function/BiFunction;" fm) (hSO : Sta Z h0 "java/lang/Integer" "DigitOnes" "[B" (.ref dO)) (hSX : Sta Z h0 "java/lang/Integer" "DigitTens" "[B" (.ref dX)) (hAO : own_Ab Z h0 dO 100 own_d1) (hAX : own_Ab Z h0 dX 100 own_d2) :
   MetFree l x (head1 (Jvm.Cond.code x code maxLocals ret :: ws) room_1) (fun aU U => aU = #[(.int p0), (.int p1), (.long q2), (.int p3)] ∧ Z.Warmed39 U.vm ∧ U.heap = h0 ∧ CHv Z consts_1 U.vm h0) (fun _ _ _ _ _ => True) (fun _ U oU U' => ∃ vU LU, oU = .returned vU ∧ Qrm0 Z p0 p1 q2 p3 wC fm dO dX h0 n0 vU U'.heap LU ∧ CHr Z consts_1 U.vm U.heap U'.vm U'.heap ∧ ReturnedEndW U oU U' LU room_1.cells room_1.slots) := by
 refine MetFree.of_bodySF (plainFor_of_name pn_MessageToStringPinLaw) hisR ?_
 intro p e s m args below meth c s₁ Bd hml0 hP hK
 obtain ⟨rfl, hZ, hh, hI⟩ := hP
 have hml : c.maxLocals = 14 := hml0
 obtain ⟨hx, hby, hown, hnm, X0, e0⟩ := own_start Bd hml0 hh
 have N0 := Fr.nil n0
 have Y := @hb _ _ hby
 obtain ⟨P0, in0, pre0⟩ : ∃ P : State → Prop, (∀ tz, oS p e below s₁ (mkF m 0 #[iv p0, iv p1, .val (.long q2), .second, iv p3, .unset, .unset, .unset, .unset, .unset, .unset, .unset, .unset, .unset] []) tz → P tz) ∧ ∀ tz, P tz → Steps p.tables e below (s₁.setTop (entryFrame m #[(.int p0), (.int p1), (.long q2), (.int p3)] maxLocals)) tz := ⟨_, fun _ kz => kz, fun tz kz => castTop (by first | (simp [entryFrame, mkF, argsToLocals, Value.category, maxLocals]; done) | rfl) kz⟩
 obtain ⟨ch5, hc5⟩ : ∃ z, z = ((p0 &&& (255 : Int32))).toUInt32.toUInt16.toUInt32.toInt32 := ⟨_, rfl⟩
 have hch5 : ¬ (255 : Int32) < ch5 := by rw [hc5]; exact own_ch1 p0
 have hcn5 : ¬ (255 : Int32) < nar .char ch5 := by rw [hc5]; exact own_ch p0
 obtain ⟨ch6, hc6⟩ : ∃ z, z = (((XT.ushr p0 (8 : Int32)) &&& (255 : Int32))).toUInt32.toUInt16.toUInt32.toInt32 := ⟨_, rfl⟩
 have hch6 : ¬ (255 : Int32) < ch6 := by rw [hc6]; exact own_ch1 (XT.ushr p0 (8 : Int32))
 have hcn6 : ¬ (255 : Int32) < nar .char ch6 := by rw [hc6]; exact own_ch (XT.ushr p0 (8 : Int32))
 obtain ⟨ch7, hc7⟩ : ∃ z, z = ((XT.ushr p0 (16 : Int32)) &&& (3 : Int32)) := ⟨_, rfl⟩
 have S1 : ∀ tz, oS p e below s₁ (mkF m 29 #[iv p0, iv p1, .val (.long q2), .second, iv p3, iv ch5, iv ch6, iv ch7, .unset, .unset, .unset, .unset, .unset, .unset] [(.int ch7)]) tz → P0 tz := fun tz kz => in0 tz (by
  refine XS.iloadN X0.here hx rfl (Y at_0) rfl ?_
  refine XT.sipushV X0.here hx rfl (255 : Int32) (Y at_1) (by decide) ?_
  refine XS.iand X0.here hx rfl (Y at_4) rfl ?_
  refine XT.i2c X0.here hx rfl (Y at_5) rfl ?_
  refine XS.istore X0.here hx rfl (Y at_6) rfl (l' := #[iv p0, iv p1, .val (.long q2), .second, iv p3, iv (((p0 &&& (255 : Int32))).toUInt32.toUInt16.toUInt32.toInt32), .unset, .unset, .unset, .unset, .unset, .unset, .unset, .unset]) rfl ?_
  refine XS.iloadN X0.here hx rfl (Y at_8) rfl ?_
  refine XT.bipushV X0.here hx rfl (8 : Int32) (Y at_9) (by decide) ?_
  refine XT.iushr X0.here hx rfl (Y at_11) rfl ?_
  refine XT.sipushV X0.here hx rfl (255 : Int32) (Y at_12) (by decide) ?_
  refine XS.iand X0.here hx rfl (Y at_15) rfl ?_
  show oS p e below s₁ (mkF m 16 #[iv p0, iv p1, .val (.long q2), .second, iv p3, iv (((p0 &&& (255 : Int32))).toUInt32.toUInt16.toUInt32.toInt32), .unset, .unset, .unset, .unset, .unset, .unset, .unset, .unset] [(.int ((XT.ushr p0 (8 : Int32)) &&& (255 : Int32)))]) _
  refine XT.i2c X0.here hx rfl (Y at_16) rfl ?_
  refine XS.istore X0.here hx rfl (Y at_17) rfl (l' := #[iv p0, iv p1, .val (.long q2), .second, iv p3, iv (((p0 &&& (255 : Int32))).toUInt32.toUInt16.toUInt32.toInt32), iv ((((XT.ushr p0 (8 : Int32)) &&& (255 : Int32))).toUInt32.toUInt16.toUInt32.toInt32), .unset, .unset, .unset, .unset, .unset, .unset, .unset]) rfl ?_
  refine XS.iloadN X0.here hx rfl (Y at_19) rfl ?_
  refine XT.bipushV X0.here hx rfl (16 : Int32) (Y at_20) (by decide) ?_
  refine XT.iushr X0.here hx rfl (Y at_22) rfl ?_
  refine XT.iconstV X0.here hx rfl (3 : Int32) (Y at_23) (by decide) ?_
  refine XS.iand X0.here hx rfl (Y at_24) rfl ?_
  refine XS.istore X0.here hx rfl (Y at_25) rfl (l' := #[iv p0, iv p1, .val (.long q2), .second, iv p3, iv (((p0 &&& (255 : Int32))).toUInt32.toUInt16.toUInt32.toInt32), iv ((((XT.ushr p0 (8 : Int32)) &&& (255 : Int32))).toUInt32.toUInt16.toUInt32.toInt32), iv (((XT.ushr p0 (16 : Int32)) &&& (3 : Int32))), .unset, .unset, .unset, .unset, .unset, .unset]) rfl ?_
  show oS p e below s₁ (mkF m 27 #[iv p0, iv p1, .val (.long q2), .second, iv p3, iv (((p0 &&& (255 : Int32))).toUInt32.toUInt16.toUInt32.toInt32), iv ((((XT.ushr p0 (8 : Int32)) &&& (255 : Int32))).toUInt32.toUInt16.toUInt32.toInt32), iv (((XT.ushr p0 (16 : Int32)) &&& (3 : Int32))), .unset, .unset, .unset, .unset, .unset, .unset] []) _
  rw [← hc5]
  show oS p e below s₁ (mkF m 27 #[iv p0, iv p1, .val (.long q2), .second, iv p3, iv ch5, iv ((((XT.ushr p0 (8 : Int32)) &&& (255 : Int32))).toUInt32.toUInt16.toUInt32.toInt32), iv (((XT.ushr p0 (16 : Int32)) &&& (3 : Int32))), .unset, .unset, .unset, .unset, .unset, .unset] []) _
  rw [← hc6]
  show oS p e below s₁ (mkF m 27 #[iv p0, iv p1, .val (.long q2), .second, iv p3, iv ch5, iv ch6, iv (((XT.ushr p0 (16 : Int32)) &&& (3 : Int32))), .unset, .unset, .unset, .unset, .unset, .unset] []) _
  rw [← hc7]
  show oS p e below s₁ (mkF m 27 #[iv p0, iv p1, .val (.long q2), .second, iv p3, iv ch5, iv ch6, iv ch7, .unset, .unset, .unset, .unset, .unset, .unset] []) _
  refine XS.iload X0.here hx rfl (Y at_27) rfl ?_
  exact kz)
 by_cases hc29_2 : ch7 = (0 : Int32)
 ·have S4 : ∀ tz, oS p e below s₁ (mkF m 32 #[iv p0, iv p1, .val (.long q2), .second, iv p3, iv ch5, iv ch6, iv ch7, .unset, .unset, .unset, .unset, .unset, .unset] []) tz → P0 tz := fun tz kz => S1 tz (by
   refine XS.ifNo X0.here hx rfl (Y at_29) rfl (XT.i0_ne_f hc29_2) ?_
   exact kz)
  obtain ⟨a3, T3, h3, ks3, b3, k3, X3, e3, E3, hS3, hk3, hZ, hown, Ea3, Fc3, Fv3, Av3, la3, lb3, R3, Li3, sn3, st3⟩ := ldcCH (s := s) (vm0 := s.vm) (show Stand p l e _ (s.setVm s.vm) m _ below meth c _ _ _ _ from X0) hx hZ hown (oq hw 0 rfl) (own_wS hw) e0 ((State.WarmedH.refl s).since 0) (Nat.zero_le _) (own_EW hw) (List.mem_of_getElem? (i := 7) rfl : _ ∈ consts_1) (CHr.refl hI).1 (vs := own_vl 0 own_t5) (z := own_n 0) own_e5 (own_nge (by decide)) (by rw [own_vlen]; exact own_nc (by decide)) (g := (mkF m 32 #[iv p0, iv p1, .val (.long q2), .second, iv p3, iv ch5, iv ch6, iv ch7, .unset, .unset, .unset, .unset, .unset, .unset] [])) rfl (Y at_32) (n := 0) (by decide) (by decide) (by decide) (by decide)
  have Rr3 := (CHr.refl hI).trans R3
  have Z3 : n0 ≤ h3.size := Nat.le_trans Z0 E3.1
  have K3 : Keep h0 h3 [] := (Keep.refl h0 []).ext E3
  have Ds3 : own_Str Z h3 a3 b3 0 own_t5 := own_Str.mk Ea3 Fc3 Fv3 ⟨_, Av3⟩
  obtain ⟨nb, hnb, hnb15⟩ := own_n15 p3
  obtain ⟨T5, h5, k5, X5, e5, E5, A5, Ex5, st5⟩ := own_newX X3 hx hZ (oq hw 3 rfl) e3 (g := (mkF m 86 #[iv p0, iv p1, .val (.long q2), .second, iv p3, iv ch5, iv ch6, iv ch7, rv a3, iv (own_n nb), .unset, .unset, .unset, .unset] [(.int (own_n nb))])) rfl (Y at_86) rfl (own_nge (Nat.lt_of_le_of_lt hnb15 (by decide))) (cap := 15) (by rw [own_nc (Nat.lt_of_le_of_lt hnb15 (by decide))]; exact hnb15) (by decide) (by decide) (by decide)
  obtain ⟨b5, g5⟩ : ∃ z, z = h3.size := ⟨_, rfl⟩
  rw [← g5] at A5 st5
  have ne_a3_b5 : a3 ≠ b5 := Nat.ne_of_lt (Nat.lt_of_lt_of_le Ds3.E.lt (Nat.le_of_eq g5.symm))
  have ne_b3_b5 : b3 ≠ b5 := Nat.ne_of_lt (Nat.lt_of_lt_of_le Ds3.A.lt (Nat.le_of_eq g5.symm))
  have f6 := (hAO.ext E3)
  have ne_dO_b5 : dO ≠ b5 := Nat.ne_of_lt (Nat.lt_of_lt_of_le f6.lt (Nat.le_of_eq g5.symm))
  have f7 := (hAX.ext E3)
  have ne_dX_b5 : dX ≠ b5 := Nat.ne_of_lt (Nat.lt_of_lt_of_le f7.lt (Nat.le_of_eq g5.symm))
  have ge_b5 : n0 ≤ b5 := Nat.le_trans Z3 (Nat.le_of_eq g5.symm)
  have sz_b5 : h0.size ≤ b5 := Nat.le_trans K3.1 (Nat.le_of_eq g5.symm)
  have sf5_b5 : Safe Z consts_1 T3.vm _ b5 := Safe.new (Nat.le_of_eq g5.symm)
  have sf8_b5 := Safe.ext E5 Rr3.1 sf5_b5
  have Rr8 := Rr3.trans (CHr.ext E5 Rr3.1)
  have Z5 : n0 ≤ h5.size := Nat.le_trans Z3 E5.1
  have K5 : Keep h0 h5 [] := K3.ext E5
  have V5 : own_Ab Z h5 b5 nb (fun _ => 0) := own_newB nb (by omega) A5
  rw [← g5] at Ex5
  obtain ⟨T9, h9, X9, e9, E9, A9, D9, -, st9⟩ := newO X5 hx hZ hown (oq hw 8 rfl) (oq hw 9 rfl) (oq hw 10 rfl) e5 (g := (mkF m 90 #[iv p0, iv p1, .val (.long q2), .second, iv p3, iv ch5, iv ch6, iv ch7, rv a3, iv (own_n nb), rv b5, .unset, .unset, .unset] [])) rfl (Y at_90) (by decide) (by decide)
  obtain ⟨b9, g9⟩ : ∃ z, z = h5.size := ⟨_, rfl⟩
  rw [← g9] at A9 D9 st9
  have f10 := (Ds3.E.ext E5)
  have ne_a3_b9 : a3 ≠ b9 := Nat.ne_of_lt (Nat.lt_of_lt_of_le f10.lt (Nat.le_of_eq g9.symm))
  have f11 := (Ds3.A.ext E5)
  have ne_b3_b9 : b3 ≠ b9 := Nat.ne_of_lt (Nat.lt_of_lt_of_le f11.lt (Nat.le_of_eq g9.symm))
  have ne_b5_b9 : b5 ≠ b9 := Nat.ne_of_lt (Nat.lt_of_lt_of_le Ex5.lt (Nat.le_of_eq g9.symm))
  have f12 := (f6.ext E5)
  have ne_dO_b9 : dO ≠ b9 := Nat.ne_of_lt (Nat.lt_of_lt_of_le f12.lt (Nat.le_of_eq g9.symm))
  have f13 := (f7.ext E5)
  have ne_dX_b9 : dX ≠ b9 := Nat.ne_of_lt (Nat.lt_of_lt_of_le f13.lt (Nat.le_of_eq g9.symm))
  have ge_b9 : n0 ≤ b9 := Nat.le_trans Z5 (Nat.le_of_eq g9.symm)
  have sz_b9 : h0.size ≤ b9 := Nat.le_trans K5.1 (Nat.le_of_eq g9.symm)
  have sf9_b9 : Safe Z consts_1 T3.vm _ b9 := Safe.new (Nat.le_of_eq g9.symm)
  have sf14_b5 := Safe.ext E9 Rr8.1 sf8_b5
  have sf14_b9 := Safe.ext E9 Rr8.1 sf9_b9
  have Rr14 := Rr8.trans (CHr.ext E9 Rr8.1)
  have Z9 : n0 ≤ h9.size := Nat.le_trans Z5 E9.1
  have K9 : Keep h0 h9 [] := K5.ext E9
  have F9_mId : Fld Z h9 b9 "com/example/campofelice/campofelice/Message" "mId" "Ljava/lang/String;" .null := D9 (Or.inr (oq hw 25 rfl)) (ty := (.object "java/lang/String")) (by decide)
  have F9_mBody : Fld Z h9 b9 "com/example/campofelice/campofelice/Message" "mBody" "[B" .null := D9 (Or.inr (oq hw 37 rfl)) (ty := (.array .byte)) (by decide)
  have F9_mAttempt : Fld Z h9 b9 "com/example/campofelice/campofelice/Message" "mAttempt" "I" (.int 0) := D9 (Or.inr (oq hw 39 rfl)) (ty := .int) (by decide)
  have F9_mDueTime : Fld Z h9 b9 "com/example/campofelice/campofelice/Message" "mDueTime" "J" (.long 0) := D9 (Or.inr (oq hw 41 rfl)) (ty := .long) (by decide)
  have f15 := (f10.ext E9)
  have f16 := ((Ds3.C.ext E5).ext E9)
  have f17 := ((Ds3.V.ext E5).ext E9)
  have f18 := (f11.ext E9)
  have f19 := (V5.ext E9)
  have f20 := (Ex5.ext E9)
  have S22 : ∀ tz, oS p e below T9 (mkF m 100 #[iv p0, iv p1, .val (.long q2), .second, iv p3, iv ch5, iv ch6, iv ch7, rv a3, iv (own_n nb), rv b5, .unset, .unset, .unset] [(.long q2), (.int p1), (.ref b5), (.ref a3), (.ref b9), (.ref b9)]) tz → P0 tz := fun tz kz => S4 tz (by
   refine st3 _ ?_
   refine XS.astore X3.here hx rfl (Y at_34) rfl rfl (l' := #[iv p0, iv p1, .val (.long q2), .second, iv p3, iv ch5, iv ch6, iv ch7, rv a3, .unset, .unset, .unset, .unset, .unset]) rfl ?_
   refine XS.goto X3.here hx rfl (pc0 := 36) (pc' := 77) rfl (Y at_36) (by decide) (by decide) ?_
   refine XS.iload X3.here hx rfl (Y at_77) rfl ?_
   refine XT.bipushV X3.here hx rfl (15 : Int32) (Y at_79) (by decide) ?_
   refine XS.iand X3.here hx rfl (Y at_81) rfl ?_
   refine XS.istore X3.here hx rfl (Y at_82) rfl (l' := #[iv p0, iv p1, .val (.long q2), .second, iv p3, iv ch5, iv ch6, iv ch7, rv a3, iv ((p3 &&& (15 : Int32))), .unset, .unset, .unset, .unset]) rfl ?_
   show oS p e below T3 (mkF m 84 #[iv p0, iv p1, .val (.long q2), .second, iv p3, iv ch5, iv ch6, iv ch7, rv a3, iv ((p3 &&& (15 : Int32))), .unset, .unset, .unset, .unset] []) _
   rw [hnb]
   show oS p e below T3 (mkF m 84 #[iv p0, iv p1, .val (.long q2), .second, iv p3, iv ch5, iv ch6, iv ch7, rv a3, iv (own_n nb), .unset, .unset, .unset, .unset] []) _
   refine XS.iload X3.here hx rfl (Y at_84) rfl ?_
   refine st5 _ ?_
   refine XS.astore X5.here hx rfl (Y at_88) rfl rfl (l' := #[iv p0, iv p1, .val (.long q2), .second, iv p3, iv ch5, iv ch6, iv ch7, rv a3, iv (own_n nb), rv b5, .unset, .unset, .unset]) rfl ?_
   refine st9 _ ?_
   refine XS.dup X9.here hx rfl (Y at_93) rfl rfl ?_
   refine XS.aload X9.here hx rfl (Y at_94) rfl rfl ?_
   refine XS.aload X9.here hx rfl (Y at_96) rfl rfl ?_
   refine XS.iloadN X9.here hx rfl (Y at_98) rfl ?_
   refine XT.lloadN X9.here hx rfl (Y at_99) rfl ?_
   show oS p e below T9 (mkF m 100 #[iv p0, iv p1, .val (.long q2), .second, iv p3, iv ch5, iv ch6, iv ch7, rv a3, iv (own_n nb), rv b5, .unset, .unset, .unset] [(.long q2), (.int p1), (.ref b5), (.ref a3), (.ref b9), (.ref b9)]) _
   exact kz)
  obtain ⟨_, T21, Lc21, X21, hS21, hZ, hown, R21, hQ21, st21⟩ := own_specialH (vm0 := T3.vm) (EL := consts_1) (W := 1) (y := mN53) (show Stand p l e _ (s.setVm T3.vm) m _ below meth c _ _ _ _ from X9) hx hZ rfl hown (oq hw 11 rfl) (oq hw 12 rfl) (oq hw 13 rfl) (oq hw 10 rfl) (by decide) (rmMI l Z av0 hw [] b9 a3 b3 0 own_t5 b5 nb (fun _ => 0) p1 q2 h9 n0 Z9 A9 F9_mId F9_mBody F9_mAttempt F9_mDueTime ge_b9 (own_Str.mk f15 f16 f17 f18) f19 f20 ne_a3_b9 ne_b3_b9 ne_b5_b9 hnb15) (by decide) (by decide) (own_EW hw) Rr14.1 hS3 (Nat.le_trans (Nat.le_trans hk3 E5.1) E9.1) (g := (mkF m 100 #[iv p0, iv p1, .val (.long q2), .second, iv p3, iv ch5, iv ch6, iv ch7, rv a3, iv (own_n nb), rv b5, .unset, .unset, .unset] [(.long q2), (.int p1), (.ref b5), (.ref a3), (.ref b9), (.ref b9)])) rfl (by rw [hml]; rfl) (a := b9) (argsL := [(.ref a3), (.ref b5), (.int p1), (.long q2)]) (rest := [(.ref b9)]) (lenOf pd__Ljava_lang_String_A_BIJ_V rfl) rfl (Y at_100) rfl e9 (by decide : 4 + 5 ≤ _) (by decide : 23 + 47 ≤ _)
  have sf21_b5 := R21.safe f20.lt sf14_b5
  have sf21_b9 := R21.safe A9.lt sf14_b9
  have Rr21 := Rr14.trans R21
  obtain ⟨rfl, N21q, b21, K21, FmId21, FmBody21, FmAttempt21, FmDueTime21, V21, gb21⟩ := hQ21
  have N21 := Fr.app N0 N21q
  have e21 : T21.heap = T21.heap := rfl
  have ne_a3_b21 : a3 ≠ b21 := Nat.ne_of_lt (Nat.lt_of_lt_of_le f15.lt gb21)
  have ne_b3_b21 : b3 ≠ b21 := Nat.ne_of_lt (Nat.lt_of_lt_of_le f18.lt gb21)
  have ne_b5_b21 : b5 ≠ b21 := Nat.ne_of_lt (Nat.lt_of_lt_of_le f20.lt gb21)
  have ne_b9_b21 : b9 ≠ b21 := Nat.ne_of_lt (Nat.lt_of_lt_of_le A9.lt gb21)
  have f23 := (f12.ext E9)
  have ne_dO_b21 : dO ≠ b21 := Nat.ne_of_lt (Nat.lt_of_lt_of_le f23.lt gb21)
  have f24 := (f13.ext E9)
  have ne_dX_b21 : dX ≠ b21 := Nat.ne_of_lt (Nat.lt_of_lt_of_le f24.lt gb21)
  have ge_b21 : n0 ≤ b21 := Nat.le_trans Z9 gb21
  have sz_b21 : h0.size ≤ b21 := Nat.le_trans K9.1 gb21
  have Zk21 : n0 ≤ T21.heap.size := Nat.le_trans Z9 K21.1
  have Kk21 : Keep h0 T21.heap [] := K9.trans K21 (allS (Or.inr sz_b9) all0)
  have f25 := (A9.keep K21)
  have f26 := (f15.keep K21)
  have f27 := (f16.keep K21 (ninS ne_a3_b9 nin0))
  have f28 := (f17.keep K21 (ninS ne_a3_b9 nin0))
  have f29 := (f18.keep K21 (ninS ne_b3_b9 nin0))
  have f30 := (own_stak (((hSO.ext E3).ext E5).ext E9) K21 (allS (own_exns A9) all0))
  have f31 := (own_stak (((hSX.ext E3).ext E5).ext E9) K21 (allS (own_exns A9) all0))
  have f32 := (f23.keep K21 (ninS ne_dO_b9 nin0))
  have f33 := (f24.keep K21 (ninS ne_dX_b9 nin0))
  have f34 := (own_stak (((hSC.ext E3).ext E5).ext E9) K21 (allS (own_exns A9) all0))
  have S36 : ∀ tz, oS p e below T21 (mkF m 107 #[iv p0, iv p1, .val (.long q2), .second, iv p3, iv ch5, iv ch6, iv ch7, rv a3, iv (own_n nb), rv b5, rv b9, .unset, .unset] [(.ref b9)]) tz → P0 tz := fun tz kz => S22 tz (by
   refine st21 _ ?_
   refine XS.astore X21.here hx rfl (Y at_103) rfl rfl (l' := #[iv p0, iv p1, .val (.long q2), .second, iv p3, iv ch5, iv ch6, iv ch7, rv a3, iv (own_n nb), rv b5, rv b9, .unset, .unset]) rfl ?_
   refine XS.aload X21.here hx rfl (Y at_105) rfl rfl ?_
   exact kz)
  obtain ⟨_, T35, Lc35, X35, hS35, hZ, hown, R35, hQ35, st35⟩ := own_virtualH (vm0 := T21.vm) (EL := consts_1) (W := 0) (y := mN54) (z := mN54) (show Stand p l e _ (s.setVm T21.vm) m _ below meth c _ _ _ _ from X21) hx hZ hown (oq hw 42 rfl) (oq hw 43 rfl) (notFace_of_selects (args := #[]) (mvT hZ (oq hw 45 rfl))) (oq hw 45 rfl) (oq hw 44 rfl) (oq hw 46 rfl) (oq hw 10 rfl) (by decide) (rmMT l Z av0 hw [] b9 a3 b3 0 own_t5 b21 nb (fun _ => 0) p1 q2 dO dX wC T21.heap n0 Zk21 f25 FmId21 FmBody21 FmAttempt21 FmDueTime21 (own_Str.mk f26 f27 f28 f29) V21 f30 f31 f32 f33 (by decide) hnb15 f34 hwC) (by decide) (by decide) (own_EW hw) Rr21.1 hS21 (Nat.le_refl _) f25 (g := (mkF m 107 #[iv p0, iv p1, .val (.long q2), .second, iv p3, iv ch5, iv ch6, iv ch7, rv a3, iv (own_n nb), rv b5, rv b9, .unset, .unset] [(.ref b9)])) rfl (by rw [hml]; rfl) (argsL := []) (rest := []) (lenOf pd__Ljava_lang_String_ rfl) rfl (Y at_107) rfl e21 (by decide : 9 + 23 ≤ _) (by decide : 70 + 1576 ≤ _)
  have f37 := (f20.keep K21)
  have sf35_b5 := R35.safe f37.lt sf21_b5
  have sf35_b9 := R35.safe f25.lt sf21_b9
  have Rr35 := Rr21.trans R35
  obtain ⟨a35, b35, gs35, rfl, N35q, K35, Ds35, sg35_0, sg35_1, sg35_2, sg35_3, sg35_4, sg35_5, sg35_6, sg35_7, sg35_8⟩ := hQ35
  have N35 := Fr.app N21 N35q
  have e35 : T35.heap = T35.heap := rfl
  have Zk35 : n0 ≤ T35.heap.size := Nat.le_trans Zk21 K35.1
  have Kk35 : Keep h0 T35.heap [] := Kk21.trans K35 all0
  have hps := own_pos 0 (own_sz p1.toInt) (own_sz q2.toInt) (own_sz (own_n nb).toInt)
  have hbs := own_bds (nt := 0) (by decide) (own_szI p1) (own_szL q2) (own_szB hnb15)
  have hNK : (((((((((0 + 8) + 0) + 10) + own_sz p1.toInt) + 6) + own_sz q2.toInt) + 2) + own_sz (own_n nb).toInt) + 7) < 1000 := hbs.2.2.2.2.2.2.2.2.2.2.2
  have S39 : ∀ tz, oS p e below T35 (mkF m 115 #[iv p0, iv p1, .val (.long q2), .second, iv p3, iv ch5, iv ch6, iv ch7, rv a3, iv (own_n nb), rv b5, rv b9, rv a35, .unset] [(.int 0), (.ref a35)]) tz → P0 tz := fun tz kz => S36 tz (by
   refine st35 _ ?_
   refine XS.astore X35.here hx rfl (Y at_110) rfl rfl (l' := #[iv p0, iv p1, .val (.long q2), .second, iv p3, iv ch5, iv ch6, iv ch7, rv a3, iv (own_n nb), rv b5, rv b9, rv a35, .unset]) rfl ?_
   refine XS.aload X35.here hx rfl (Y at_112) rfl rfl ?_
   refine XT.iconstV X35.here hx rfl (0 : Int32) (Y at_114) (by decide) ?_
   exact kz)
  obtain ⟨a38, T38, h38, ks38, b38, k38, X38, e38, E38, hS38, hk38, hZ, hown, Ea38, Fc38, Fv38, Av38, la38, lb38, R38, Li38, sn38, st38⟩ := ldcCH (s := s) (vm0 := T35.vm) (show Stand p l e _ (s.setVm T35.vm) m _ below meth c _ _ _ _ from X35) hx hZ hown (oq hw 220 rfl) (own_wS hw) e35 hS35 (Nat.le_refl _) (own_EW hw) (List.mem_of_getElem? (i := 8) rfl : _ ∈ consts_1) Rr35.1 (vs := own_vl 8 own_t0) (z := own_n 8) own_e0 (own_nge (by decide)) (by rw [own_vlen]; exact own_nc (by decide)) (g := (mkF m 115 #[iv p0, iv p1, .val (.long q2), .second, iv p3, iv ch5, iv ch6, iv ch7, rv a3, iv (own_n nb), rv b5, rv b9, rv a35, .unset] [(.int 0), (.ref a35)])) rfl (Y at_115) (n := 32) (by decide) (by decide) (by decide) (by decide)
  have Rr38 := Rr35.trans R38
  have Z38 : n0 ≤ h38.size := Nat.le_trans Zk35 E38.1
  have K38 : Keep h0 h38 [] := Kk35.ext E38
  have Ds38 : own_Str Z h38 a38 b38 8 own_t0 := own_Str.mk Ea38 Fc38 Fv38 ⟨_, Av38⟩
  have f40 := (Ds35.E.ext E38)
  have f41 := (Ds35.C.ext E38)
  have f42 := (Ds35.V.ext E38)
  have f43 := (Ds35.A.ext E38)
  have f44 := ((own_stak (own_stak (((hFm.ext E3).ext E5).ext E9) K21 (allS (own_exns A9) all0)) K35 all0).ext E38)
  have f45 := ((own_stak f34 K35 all0).ext E38)
  obtain ⟨_, T46, Lc46, X46, hQ46, st46⟩ := own_callS (W := 0) (y := mN39) X38 hx hZ hown (oq hw 221 rfl) (oq hw 222 rfl) (oq hw 223 rfl) (oq hw 224 rfl) (by decide) (rmlit l Z av0 hw [] a35 b35 (((((((((0 + 8) + 0) + 10) + own_sz p1.toInt) + 6) + own_sz q2.toInt) + 2) + own_sz (own_n nb).toInt) + 7) gs35 a38 b38 8 own_t0 0 fm wC h38 n0 Z38 (own_Str.mk f40 f41 f42 f43) (own_Str.mk Ds38.E Ds38.C Ds38.V Ds38.A) ⟨hps.1, hNK, by decide⟩ sg35_0 hfm f44 f45 hwC) (by decide) (by decide) (g := (mkF m 117 #[iv p0, iv p1, .val (.long q2), .second, iv p3, iv ch5, iv ch6, iv ch7, rv a3, iv (own_n nb), rv b5, rv b9, rv a35, .unset] [(.ref a38), (.int 0), (.ref a35)])) rfl (by rw [hml]; rfl) (argsL := [(.ref a35), (.int 0), (.ref a38)]) (rest := []) (lenOf pd__Ljava_lang_String_ILjava_lang_String_I rfl) rfl (Y at_117) rfl e38 (by decide : 34 + 0 ≤ _) (by decide : 1682 + 0 ≤ _)
  obtain ⟨rfl, N46q, hh46⟩ := hQ46
  have N46 := Fr.app N35 N46q
  have e46 : T46.heap = h38 := hh46
  have f47 := ((f26.keep K35).ext E38)
  have f48 := ((f27.keep K35 nin0).ext E38)
  have f49 := ((f28.keep K35 nin0).ext E38)
  have f50 := ((f29.keep K35 nin0).ext E38)
  obtain ⟨_, T51, Lc51, X51, hQ51, st51⟩ := own_callS (W := 0) (y := mN39) X46 hx hZ hown (oq hw 221 rfl) (oq hw 222 rfl) (oq hw 223 rfl) (oq hw 224 rfl) (by decide) (rmlit l Z av0 hw [] a35 b35 (((((((((0 + 8) + 0) + 10) + own_sz p1.toInt) + 6) + own_sz q2.toInt) + 2) + own_sz (own_n nb).toInt) + 7) gs35 a3 b3 0 own_t5 (0 + 8) fm wC h38 n0 Z38 (own_Str.mk f40 f41 f42 f43) (own_Str.mk f47 f48 f49 f50) ⟨hps.2.1, hNK, by decide⟩ sg35_1 hfm f44 f45 hwC) (by decide) (by decide) (g := (mkF m 128 #[iv p0, iv p1, .val (.long q2), .second, iv p3, iv ch5, iv ch6, iv ch7, rv a3, iv (own_n nb), rv b5, rv b9, rv a35, iv ((own_n (0 + 8)))] [(.ref a3), (.int (own_n (0 + 8))), (.ref a35)])) rfl (by rw [hml]; rfl) (argsL := [(.ref a35), (.int (own_n (0 + 8))), (.ref a3)]) (rest := []) (lenOf pd__Ljava_lang_String_ILjava_lang_String_I rfl) rfl (Y at_128) rfl e46 (by decide : 34 + 0 ≤ _) (by decide : 1682 + 0 ≤ _)
  obtain ⟨rfl, N51q, hh51⟩ := hQ51
  have N51 := Fr.app N46 N51q
  have e51 : T51.heap = h38 := hh51
  have S53 : ∀ tz, oS p e below T51 (mkF m 137 #[iv p0, iv p1, .val (.long q2), .second, iv p3, iv ch5, iv ch6, iv ch7, rv a3, iv (own_n nb), rv b5, rv b9, rv a35, iv ((own_n ((0 + 8) + 0)))] [(.int (own_n ((0 + 8) + 0))), (.ref a35)]) tz → P0 tz := fun tz kz => S39 tz (by
   refine st38 _ ?_
   refine st46 _ ?_
   refine XS.istore X46.here hx rfl (Y at_120) rfl (l' := #[iv p0, iv p1, .val (.long q2), .second, iv p3, iv ch5, iv ch6, iv ch7, rv a3, iv (own_n nb), rv b5, rv b9, rv a35, iv ((own_n (0 + 8)))]) rfl ?_
   show oS p e below T46 (mkF m 122 #[iv p0, iv p1, .val (.long q2), .second, iv p3, iv ch5, iv ch6, iv ch7, rv a3, iv (own_n nb), rv b5, rv b9, rv a35, iv ((own_n (0 + 8)))] []) _
   refine XS.aload X46.here hx rfl (Y at_122) rfl rfl ?_
   refine XS.iload X46.here hx rfl (Y at_124) rfl ?_
   refine XS.aload X46.here hx rfl (Y at_126) rfl rfl ?_
   refine st51 _ ?_
   refine XS.istore X51.here hx rfl (Y at_131) rfl (l' := #[iv p0, iv p1, .val (.long q2), .second, iv p3, iv ch5, iv ch6, iv ch7, rv a3, iv (own_n nb), rv b5, rv b9, rv a35, iv ((own_n ((0 + 8) + 0)))]) rfl ?_
   refine XS.aload X51.here hx rfl (Y at_133) rfl rfl ?_
   refine XS.iload X51.here hx rfl (Y at_135) rfl ?_
   exact kz)
  obtain ⟨a52, T52, h52, ks52, b52, k52, X52, e52, E52, hS52, hk52, hZ, hown, Ea52, Fc52, Fv52, Av52, la52, lb52, R52, Li52, sn52, st52⟩ := ldcCH (s := s) (vm0 := T38.vm) (show Stand p l e _ (s.setVm T38.vm) m _ below meth c _ _ _ _ from X51) hx hZ hown (oq hw 251 rfl) (own_wS hw) e51 hS38 hk38 (own_EW hw) (List.mem_of_getElem? (i := 9) rfl : _ ∈ consts_1) Rr38.1 (vs := own_vl 10 own_t1) (z := own_n 10) own_e1 (own_nge (by decide)) (by rw [own_vlen]; exact own_nc (by decide)) (g := (mkF m 137 #[iv p0, iv p1, .val (.long q2), .second, iv p3, iv ch5, iv ch6, iv ch7, rv a3, iv (own_n nb), rv b5, rv b9, rv a35, iv ((own_n ((0 + 8) + 0)))] [(.int (own_n ((0 + 8) + 0))), (.ref a35)])) rfl (Y at_137) (n := 40) (by decide) (by decide) (by decide) (by decide)
  have Rr52 := Rr38.trans R52
  have Z52 : n0 ≤ h52.size := Nat.le_trans Z38 E52.1
  have K52 : Keep h0 h52 [] := K38.ext E52
  have Ds52 : own_Str Z h52 a52 b52 10 own_t1 := own_Str.mk Ea52 Fc52 Fv52 ⟨_, Av52⟩
  have f54 := (f40.ext E52)
  have f55 := (f41.ext E52)
  have f56 := (f42.ext E52)
  have f57 := (f43.ext E52)
  have f58 := (f44.ext E52)
  have f59 := (f45.ext E52)
  obtain ⟨_, T60, Lc60, X60, hQ60, st60⟩ := own_callS (W := 0) (y := mN39) X52 hx hZ hown (oq hw 221 rfl) (oq hw 222 rfl) (oq hw 223 rfl) (oq hw 224 rfl) (by decide) (rmlit l Z av0 hw [] a35 b35 (((((((((0 + 8) + 0) + 10) + own_sz p1.toInt) + 6) + own_sz q2.toInt) + 2) + own_sz (own_n nb).toInt) + 7) gs35 a52 b52 10 own_t1 ((0 + 8) + 0) fm wC h52 n0 Z52 (own_Str.mk f54 f55 f56 f57) (own_Str.mk Ds52.E Ds52.C Ds52.V Ds52.A) ⟨hps.2.2.1, hNK, by decide⟩ sg35_2 hfm f58 f59 hwC) (by decide) (by decide) (g := (mkF m 139 #[iv p0, iv p1, .val (.long q2), .second, iv p3, iv ch5, iv ch6, iv ch7, rv a3, iv (own_n nb), rv b5, rv b9, rv a35, iv ((own_n ((0 + 8) + 0)))] [(.ref a52), (.int (own_n ((0 + 8) + 0))), (.ref a35)])) rfl (by rw [hml]; rfl) (argsL := [(.ref a35), (.int (own_n ((0 + 8) + 0))), (.ref a52)]) (rest := []) (lenOf pd__Ljava_lang_String_ILjava_lang_String_I rfl) rfl (Y at_139) rfl e52 (by decide : 36 + 0 ≤ _) (by decide : 1726 + 0 ≤ _)
  obtain ⟨rfl, N60q, hh60⟩ := hQ60
  have N60 := Fr.app N51 N60q
  have e60 : T60.heap = h52 := hh60
  obtain ⟨_, T61, Lc61, X61, hQ61, st61⟩ := own_callS (W := 0) (y := mN42) X60 hx hZ hown (oq hw 252 rfl) (oq hw 253 rfl) (oq hw 223 rfl) (oq hw 254 rfl) (by decide) (rmnum l Z av0 hw [] a35 b35 (((((((((0 + 8) + 0) + 10) + own_sz p1.toInt) + 6) + own_sz q2.toInt) + 2) + own_sz (own_n nb).toInt) + 7) gs35 (((0 + 8) + 0) + 10) ((p1).toInt64) fm wC h52 n0 Z52 (own_Str.mk f54 f55 f56 f57) (by rw [own_i2l]; exact ⟨hps.2.2.2.1, hNK⟩) (by rw [own_i2l]; exact sg35_3) hfm f58 f59 hwC) (by decide) (by decide) (g := (mkF m 150 #[iv p0, iv p1, .val (.long q2), .second, iv p3, iv ch5, iv ch6, iv ch7, rv a3, iv (own_n nb), rv b5, rv b9, rv a35, iv ((own_n (((0 + 8) + 0) + 10)))] [(.long (p1).toInt64), (.int (own_n (((0 + 8) + 0) + 10))), (.ref a35)])) rfl (by rw [hml]; rfl) (argsL := [(.ref a35), (.int (own_n (((0 + 8) + 0) + 10))), (.long (p1).toInt64)]) (rest := []) (lenOf pd__Ljava_lang_String_IJ_I rfl) rfl (Y at_150) rfl e60 (by decide : 36 + 0 ≤ _) (by decide : 1726 + 0 ≤ _)
  obtain ⟨rfl, N61q, hh61⟩ := hQ61
  have N61 := Fr.app N60 N61q
  have e61 : T61.heap = h52 := hh61
  have S63 : ∀ tz, oS p e below T61 (mkF m 159 #[iv p0, iv p1, .val (.long q2), .second, iv p3, iv ch5, iv ch6, iv ch7, rv a3, iv (own_n nb), rv b5, rv b9, rv a35, iv ((own_n ((((0 + 8) + 0) + 10) + own_sz p1.toInt)))] [(.int (own_n ((((0 + 8) + 0) + 10) + own_sz p1.toInt))), (.ref a35)]) tz → P0 tz := fun tz kz => S53 tz (by
   refine st52 _ ?_
   refine st60 _ ?_
   refine XS.istore X60.here hx rfl (Y at_142) rfl (l' := #[iv p0, iv p1, .val (.long q2), .second, iv p3, iv ch5, iv ch6, iv ch7, rv a3, iv (own_n nb), rv b5, rv b9, rv a35, iv ((own_n (((0 + 8) + 0) + 10)))]) rfl ?_
   show oS p e below T60 (mkF m 144 #[iv p0, iv p1, .val (.long q2), .second, iv p3, iv ch5, iv ch6, iv ch7, rv a3, iv (own_n nb), rv b5, rv b9, rv a35, iv ((own_n (((0 + 8) + 0) + 10)))] []) _
   refine XS.aload X60.here hx rfl (Y at_144) rfl rfl ?_
   refine XS.iload X60.here hx rfl (Y at_146) rfl ?_
   refine XS.iloadN X60.here hx rfl (Y at_148) rfl ?_
   refine XT.i2l X60.here hx rfl (Y at_149) rfl ?_
   refine st61 _ ?_
   show oS p e below T61 (mkF m 153 #[iv p0, iv p1, .val (.long q2), .second, iv p3, iv ch5, iv ch6, iv ch7, rv a3, iv (own_n nb), rv b5, rv b9, rv a35, iv ((own_n (((0 + 8) + 0) + 10)))] [(.int (own_n ((((0 + 8) + 0) + 10) + own_sz ((p1).toInt64).toInt)))]) _
   rw [own_i2l]
   show oS p e below T61 (mkF m 153 #[iv p0, iv p1, .val (.long q2), .second, iv p3, iv ch5, iv ch6, iv ch7, rv a3, iv (own_n nb), rv b5, rv b9, rv a35, iv ((own_n (((0 + 8) + 0) + 10)))] [(.int (own_n ((((0 + 8) + 0) + 10) + own_sz p1.toInt)))]) _
   refine XS.istore X61.here hx rfl (Y at_153) rfl (l' := #[iv p0, iv p1, .val (.long q2), .second, iv p3, iv ch5, iv ch6, iv ch7, rv a3, iv (own_n nb), rv b5, rv b9, rv a35, iv ((own_n ((((0 + 8) + 0) + 10) + own_sz p1.toInt)))]) rfl ?_
   refine XS.aload X61.here hx rfl (Y at_155) rfl rfl ?_
   refine XS.iload X61.here hx rfl (Y at_157) rfl ?_
   exact kz)
  obtain ⟨a62, T62, h62, ks62, b62, k62, X62, e62, E62, hS62, hk62, hZ, hown, Ea62, Fc62, Fv62, Av62, la62, lb62, R62, Li62, sn62, st62⟩ := ldcCH (s := s) (vm0 := T52.vm) (show Stand p l e _ (s.setVm T52.vm) m _ below meth c _ _ _ _ from X61) hx hZ hown (oq hw 279 rfl) (own_wS hw) e61 hS52 hk52 (own_EW hw) (List.mem_of_getElem? (i := 10) rfl : _ ∈ consts_1) Rr52.1 (vs := own_vl 6 own_t2) (z := own_n 6) own_e2 (own_nge (by decide)) (by rw [own_vlen]; exact own_nc (by decide)) (g := (mkF m 159 #[iv p0, iv p1, .val (.long q2), .second, iv p3, iv ch5, iv ch6, iv ch7, rv a3, iv (own_n nb), rv b5, rv b9, rv a35, iv ((own_n ((((0 + 8) + 0) + 10) + own_sz p1.toInt)))] [(.int (own_n ((((0 + 8) + 0) + 10) + own_sz p1.toInt))), (.ref a35)])) rfl (Y at_159) (n := 24) (by decide) (by decide) (by decide) (by decide)
  have Rr62 := Rr52.trans R62
  have Z62 : n0 ≤ h62.size := Nat.le_trans Z52 E62.1
  have K62 : Keep h0 h62 [] := K52.ext E62
  have Ds62 : own_Str Z h62 a62 b62 6 own_t2 := own_Str.mk Ea62 Fc62 Fv62 ⟨_, Av62⟩
  have f64 := (f54.ext E62)
  have f65 := (f55.ext E62)
  have f66 := (f56.ext E62)
  have f67 := (f57.ext E62)
  have f68 := (f58.ext E62)
  have f69 := (f59.ext E62)
  obtain ⟨_, T70, Lc70, X70, hQ70, st70⟩ := own_callS (W := 0) (y := mN39) X62 hx hZ hown (oq hw 221 rfl) (oq hw 222 rfl) (oq hw 223 rfl) (oq hw 224 rfl) (by decide) (rmlit l Z av0 hw [] a35 b35 (((((((((0 + 8) + 0) + 10) + own_sz p1.toInt) + 6) + own_sz q2.toInt) + 2) + own_sz (own_n nb).toInt) + 7) gs35 a62 b62 6 own_t2 ((((0 + 8) + 0) + 10) + own_sz p1.toInt) fm wC h62 n0 Z62 (own_Str.mk f64 f65 f66 f67) (own_Str.mk Ds62.E Ds62.C Ds62.V Ds62.A) ⟨hps.2.2.2.2.1, hNK, by decide⟩ sg35_4 hfm f68 f69 hwC) (by decide) (by decide) (g := (mkF m 161 #[iv p0, iv p1, .val (.long q2), .second, iv p3, iv ch5, iv ch6, iv ch7, rv a3, iv (own_n nb), rv b5, rv b9, rv a35, iv ((own_n ((((0 + 8) + 0) + 10) + own_sz p1.toInt)))] [(.ref a62), (.int (own_n ((((0 + 8) + 0) + 10) + own_sz p1.toInt))), (.ref a35)])) rfl (by rw [hml]; rfl) (argsL := [(.ref a35), (.int (own_n ((((0 + 8) + 0) + 10) + own_sz p1.toInt))), (.ref a62)]) (rest := []) (lenOf pd__Ljava_lang_String_ILjava_lang_String_I rfl) rfl (Y at_161) rfl e62 (by decide : 38 + 0 ≤ _) (by decide : 1754 + 0 ≤ _)
  obtain ⟨rfl, N70q, hh70⟩ := hQ70
  have N70 := Fr.app N61 N70q
  have e70 : T70.heap = h62 := hh70
  obtain ⟨_, T71, Lc71, X71, hQ71, st71⟩ := own_callS (W := 0) (y := mN42) X70 hx hZ hown (oq hw 252 rfl) (oq hw 253 rfl) (oq hw 223 rfl) (oq hw 254 rfl) (by decide) (rmnum l Z av0 hw [] a35 b35 (((((((((0 + 8) + 0) + 10) + own_sz p1.toInt) + 6) + own_sz q2.toInt) + 2) + own_sz (own_n nb).toInt) + 7) gs35 (((((0 + 8) + 0) + 10) + own_sz p1.toInt) + 6) (q2) fm wC h62 n0 Z62 (own_Str.mk f64 f65 f66 f67) ⟨hps.2.2.2.2.2.1, hNK⟩ sg35_5 hfm f68 f69 hwC) (by decide) (by decide) (g := (mkF m 171 #[iv p0, iv p1, .val (.long q2), .second, iv p3, iv ch5, iv ch6, iv ch7, rv a3, iv (own_n nb), rv b5, rv b9, rv a35, iv ((own_n (((((0 + 8) + 0) + 10) + own_sz p1.toInt) + 6)))] [(.long q2), (.int (own_n (((((0 + 8) + 0) + 10) + own_sz p1.toInt) + 6))), (.ref a35)])) rfl (by rw [hml]; rfl) (argsL := [(.ref a35), (.int (own_n (((((0 + 8) + 0) + 10) + own_sz p1.toInt) + 6))), (.long q2)]) (rest := []) (lenOf pd__Ljava_lang_String_IJ_I rfl) rfl (Y at_171) rfl e70 (by decide : 38 + 0 ≤ _) (by decide : 1754 + 0 ≤ _)
  obtain ⟨rfl, N71q, hh71⟩ := hQ71
  have N71 := Fr.app N70 N71q
  have e71 : T71.heap = h62 := hh71
  have S73 : ∀ tz, oS p e below T71 (mkF m 180 #[iv p0, iv p1, .val (.long q2), .second, iv p3, iv ch5, iv ch6, iv ch7, rv a3, iv (own_n nb), rv b5, rv b9, rv a35, iv ((own_n ((((((0 + 8) + 0) + 10) + own_sz p1.toInt) + 6) + own_sz q2.toInt)))] [(.int (own_n ((((((0 + 8) + 0) + 10) + own_sz p1.toInt) + 6) + own_sz q2.toInt))), (.ref a35)]) tz → P0 tz := fun tz kz => S63 tz (by
   refine st62 _ ?_
   show oS p e below T62 (mkF m 161 #[iv p0, iv p1, .val (.long q2), .second, iv p3, iv ch5, iv ch6, iv ch7, rv a3, iv (own_n nb), rv b5, rv b9, rv a35, iv ((own_n ((((0 + 8) + 0) + 10) + own_sz p1.toInt)))] [(.ref a62), (.int (own_n ((((0 + 8) + 0) + 10) + own_sz p1.toInt))), (.ref a35)]) _
   refine st70 _ ?_
   refine XS.istore X70.here hx rfl (Y at_164) rfl (l' := #[iv p0, iv p1, .val (.long q2), .second, iv p3, iv ch5, iv ch6, iv ch7, rv a3, iv (own_n nb), rv b5, rv b9, rv a35, iv ((own_n (((((0 + 8) + 0) + 10) + own_sz p1.toInt) + 6)))]) rfl ?_
   refine XS.aload X70.here hx rfl (Y at_166) rfl rfl ?_
   refine XS.iload X70.here hx rfl (Y at_168) rfl ?_
   refine XT.lloadN X70.here hx rfl (Y at_170) rfl ?_
   refine st71 _ ?_
   refine XS.istore X71.here hx rfl (Y at_174) rfl (l' := #[iv p0, iv p1, .val (.long q2), .second, iv p3, iv ch5, iv ch6, iv ch7, rv a3, iv (own_n nb), rv b5, rv b9, rv a35, iv ((own_n ((((((0 + 8) + 0) + 10) + own_sz p1.toInt) + 6) + own_sz q2.toInt)))]) rfl ?_
   refine XS.aload X71.here hx rfl (Y at_176) rfl rfl ?_
   refine XS.iload X71.here hx rfl (Y at_178) rfl ?_
   exact kz)
  obtain ⟨a72, T72, h72, ks72, b72, k72, X72, e72, E72, hS72, hk72, hZ, hown, Ea72, Fc72, Fv72, Av72, la72, lb72, R72, Li72, sn72, st72⟩ := ldcCH (s := s) (vm0 := T62.vm) (show Stand p l e _ (s.setVm T62.vm) m _ below meth c _ _ _ _ from X71) hx hZ hown (oq hw 280 rfl) (own_wS hw) e71 hS62 hk62 (own_EW hw) (List.mem_of_getElem? (i := 11) rfl : _ ∈ consts_1) Rr62.1 (vs := own_vl 2 own_t3) (z := own_n 2) own_e3 (own_nge (by decide)) (by rw [own_vlen]; exact own_nc (by decide)) (g := (mkF m 180 #[iv p0, iv p1, .val (.long q2), .second, iv p3, iv ch5, iv ch6, iv ch7, rv a3, iv (own_n nb), rv b5, rv b9, rv a35, iv ((own_n ((((((0 + 8) + 0) + 10) + own_sz p1.toInt) + 6) + own_sz q2.toInt)))] [(.int (own_n ((((((0 + 8) + 0) + 10) + own_sz p1.toInt) + 6) + own_sz q2.toInt))), (.ref a35)])) rfl (Y at_180) (n := 8) (by decide) (by decide) (by decide) (by decide)
  have Rr72 := Rr62.trans R72
  have Z72 : n0 ≤ h72.size := Nat.le_trans Z62 E72.1
  have K72 : Keep h0 h72 [] := K62.ext E72
  have Ds72 : own_Str Z h72 a72 b72 2 own_t3 := own_Str.mk Ea72 Fc72 Fv72 ⟨_, Av72⟩
  have f74 := (f64.ext E72)
  have f75 := (f65.ext E72)
  have f76 := (f66.ext E72)
  have f77 := (f67.ext E72)
  have f78 := (f68.ext E72)
  have f79 := (f69.ext E72)
  obtain ⟨_, T80, Lc80, X80, hQ80, st80⟩ := own_callS (W := 0) (y := mN39) X72 hx hZ hown (oq hw 221 rfl) (oq hw 222 rfl) (oq hw 223 rfl) (oq hw 224 rfl) (by decide) (rmlit l Z av0 hw [] a35 b35 (((((((((0 + 8) + 0) + 10) + own_sz p1.toInt) + 6) + own_sz q2.toInt) + 2) + own_sz (own_n nb).toInt) + 7) gs35 a72 b72 2 own_t3 ((((((0 + 8) + 0) + 10) + own_sz p1.toInt) + 6) + own_sz q2.toInt) fm wC h72 n0 Z72 (own_Str.mk f74 f75 f76 f77) (own_Str.mk Ds72.E Ds72.C Ds72.V Ds72.A) ⟨hps.2.2.2.2.2.2.1, hNK, by decide⟩ sg35_6 hfm f78 f79 hwC) (by decide) (by decide) (g := (mkF m 182 #[iv p0, iv p1, .val (.long q2), .second, iv p3, iv ch5, iv ch6, iv ch7, rv a3, iv (own_n nb), rv b5, rv b9, rv a35, iv ((own_n ((((((0 + 8) + 0) + 10) + own_sz p1.toInt) + 6) + own_sz q2.toInt)))] [(.ref a72), (.int (own_n ((((((0 + 8) + 0) + 10) + own_sz p1.toInt) + 6) + own_sz q2.toInt))), (.ref a35)])) rfl (by rw [hml]; rfl) (argsL := [(.ref a35), (.int (own_n ((((((0 + 8) + 0) + 10) + own_sz p1.toInt) + 6) + own_sz q2.toInt))), (.ref a72)]) (rest := []) (lenOf pd__Ljava_lang_String_ILjava_lang_String_I rfl) rfl (Y at_182) rfl e72 (by decide : 40 + 0 ≤ _) (by decide : 1766 + 0 ≤ _)
  obtain ⟨rfl, N80q, hh80⟩ := hQ80
  have N80 := Fr.app N71 N80q
  have e80 : T80.heap = h72 := hh80
  obtain ⟨_, T81, Lc81, X81, hQ81, st81⟩ := own_callS (W := 0) (y := mN42) X80 hx hZ hown (oq hw 252 rfl) (oq hw 253 rfl) (oq hw 223 rfl) (oq hw 254 rfl) (by decide) (rmnum l Z av0 hw [] a35 b35 (((((((((0 + 8) + 0) + 10) + own_sz p1.toInt) + 6) + own_sz q2.toInt) + 2) + own_sz (own_n nb).toInt) + 7) gs35 (((((((0 + 8) + 0) + 10) + own_sz p1.toInt) + 6) + own_sz q2.toInt) + 2) (((own_n nb)).toInt64) fm wC h72 n0 Z72 (own_Str.mk f74 f75 f76 f77) (by rw [own_i2l]; exact ⟨hps.2.2.2.2.2.2.2.1, hNK⟩) (by rw [own_i2l]; exact sg35_7) hfm f78 f79 hwC) (by decide) (by decide) (g := (mkF m 194 #[iv p0, iv p1, .val (.long q2), .second, iv p3, iv ch5, iv ch6, iv ch7, rv a3, iv (own_n nb), rv b5, rv b9, rv a35, iv ((own_n (((((((0 + 8) + 0) + 10) + own_sz p1.toInt) + 6) + own_sz q2.toInt) + 2)))] [(.long ((own_n nb)).toInt64), (.int (own_n (((((((0 + 8) + 0) + 10) + own_sz p1.toInt) + 6) + own_sz q2.toInt) + 2))), (.ref a35)])) rfl (by rw [hml]; rfl) (argsL := [(.ref a35), (.int (own_n (((((((0 + 8) + 0) + 10) + own_sz p1.toInt) + 6) + own_sz q2.toInt) + 2))), (.long ((own_n nb)).toInt64)]) (rest := []) (lenOf pd__Ljava_lang_String_IJ_I rfl) rfl (Y at_194) rfl e80 (by decide : 40 + 0 ≤ _) (by decide : 1766 + 0 ≤ _)
  obtain ⟨rfl, N81q, hh81⟩ := hQ81
  have N81 := Fr.app N80 N81q
  have e81 : T81.heap = h72 := hh81
  have S83 : ∀ tz, oS p e below T81 (mkF m 203 #[iv p0, iv p1, .val (.long q2), .second, iv p3, iv ch5, iv ch6, iv ch7, rv a3, iv (own_n nb), rv b5, rv b9, rv a35, iv ((own_n ((((((((0 + 8) + 0) + 10) + own_sz p1.toInt) + 6) + own_sz q2.toInt) + 2) + own_sz (own_n nb).toInt)))] [(.int (own_n ((((((((0 + 8) + 0) + 10) + own_sz p1.toInt) + 6) + own_sz q2.toInt) + 2) + own_sz (own_n nb).toInt))), (.ref a35)]) tz → P0 tz := fun tz kz => S73 tz (by
   refine st72 _ ?_
   show oS p e below T72 (mkF m 182 #[iv p0, iv p1, .val (.long q2), .second, iv p3, iv ch5, iv ch6, iv ch7, rv a3, iv (own_n nb), rv b5, rv b9, rv a35, iv ((own_n ((((((0 + 8) + 0) + 10) + own_sz p1.toInt) + 6) + own_sz q2.toInt)))] [(.ref a72), (.int (own_n ((((((0 + 8) + 0) + 10) + own_sz p1.toInt) + 6) + own_sz q2.toInt))), (.ref a35)]) _
   refine st80 _ ?_
   refine XS.istore X80.here hx rfl (Y at_185) rfl (l' := #[iv p0, iv p1, .val (.long q2), .second, iv p3, iv ch5, iv ch6, iv ch7, rv a3, iv (own_n nb), rv b5, rv b9, rv a35, iv ((own_n (((((((0 + 8) + 0) + 10) + own_sz p1.toInt) + 6) + own_sz q2.toInt) + 2)))]) rfl ?_
   refine XS.aload X80.here hx rfl (Y at_187) rfl rfl ?_
   refine XS.iload X80.here hx rfl (Y at_189) rfl ?_
   refine XS.iload X80.here hx rfl (Y at_191) rfl ?_
   refine XT.i2l X80.here hx rfl (Y at_193) rfl ?_
   refine st81 _ ?_
   show oS p e below T81 (mkF m 197 #[iv p0, iv p1, .val (.long q2), .second, iv p3, iv ch5, iv ch6, iv ch7, rv a3, iv (own_n nb), rv b5, rv b9, rv a35, iv ((own_n (((((((0 + 8) + 0) + 10) + own_sz p1.toInt) + 6) + own_sz q2.toInt) + 2)))] [(.int (own_n ((((((((0 + 8) + 0) + 10) + own_sz p1.toInt) + 6) + own_sz q2.toInt) + 2) + own_sz (((own_n nb)).toInt64).toInt)))]) _
   rw [own_i2l]
   show oS p e below T81 (mkF m 197 #[iv p0, iv p1, .val (.long q2), .second, iv p3, iv ch5, iv ch6, iv ch7, rv a3, iv (own_n nb), rv b5, rv b9, rv a35, iv ((own_n (((((((0 + 8) + 0) + 10) + own_sz p1.toInt) + 6) + own_sz q2.toInt) + 2)))] [(.int (own_n ((((((((0 + 8) + 0) + 10) + own_sz p1.toInt) + 6) + own_sz q2.toInt) + 2) + own_sz (own_n nb).toInt)))]) _
   refine XS.istore X81.here hx rfl (Y at_197) rfl (l' := #[iv p0, iv p1, .val (.long q2), .second, iv p3, iv ch5, iv ch6, iv ch7, rv a3, iv (own_n nb), rv b5, rv b9, rv a35, iv ((own_n ((((((((0 + 8) + 0) + 10) + own_sz p1.toInt) + 6) + own_sz q2.toInt) + 2) + own_sz (own_n nb).toInt)))]) rfl ?_
   refine XS.aload X81.here hx rfl (Y at_199) rfl rfl ?_
   show oS p e below T81 (mkF m 201 #[iv p0, iv p1, .val (.long q2), .second, iv p3, iv ch5, iv ch6, iv ch7, rv a3, iv (own_n nb), rv b5, rv b9, rv a35, iv ((own_n ((((((((0 + 8) + 0) + 10) + own_sz p1.toInt) + 6) + own_sz q2.toInt) + 2) + own_sz (own_n nb).toInt)))] [(.ref a35)]) _
   refine XS.iload X81.here hx rfl (Y at_201) rfl ?_
   exact kz)
  obtain ⟨a82, T82, h82, ks82, b82, k82, X82, e82, E82, hS82, hk82, hZ, hown, Ea82, Fc82, Fv82, Av82, la82, lb82, R82, Li82, sn82, st82⟩ := ldcCH (s := s) (vm0 := T72.vm) (show Stand p l e _ (s.setVm T72.vm) m _ below meth c _ _ _ _ from X81) hx hZ hown (oq hw 281 rfl) (own_wS hw) e81 hS72 hk72 (own_EW hw) (List.mem_of_getElem? (i := 12) rfl : _ ∈ consts_1) Rr72.1 (vs := own_vl 7 own_t4) (z := own_n 7) own_e4 (own_nge (by decide)) (by rw [own_vlen]; exact own_nc (by decide)) (g := (mkF m 203 #[iv p0, iv p1, .val (.long q2), .second, iv p3, iv ch5, iv ch6, iv ch7, rv a3, iv (own_n nb), rv b5, rv b9, rv a35, iv ((own_n ((((((((0 + 8) + 0) + 10) + own_sz p1.toInt) + 6) + own_sz q2.toInt) + 2) + own_sz (own_n nb).toInt)))] [(.int (own_n ((((((((0 + 8) + 0) + 10) + own_sz p1.toInt) + 6) + own_sz q2.toInt) + 2) + own_sz (own_n nb).toInt))), (.ref a35)])) rfl (Y at_203) (n := 28) (by decide) (by decide) (by decide) (by decide)
  have Rr82 := Rr72.trans R82
  have Z82 : n0 ≤ h82.size := Nat.le_trans Z72 E82.1
  have K82 : Keep h0 h82 [] := K72.ext E82
  have Ds82 : own_Str Z h82 a82 b82 7 own_t4 := own_Str.mk Ea82 Fc82 Fv82 ⟨_, Av82⟩
  have f84 := (f74.ext E82)
  have f85 := (f75.ext E82)
  have f86 := (f76.ext E82)
  have f87 := (f77.ext E82)
  have f88 := (f78.ext E82)
  have f89 := (f79.ext E82)
  obtain ⟨_, T90, Lc90, X90, hQ90, st90⟩ := own_callS (W := 0) (y := mN39) X82 hx hZ hown (oq hw 221 rfl) (oq hw 222 rfl) (oq hw 223 rfl) (oq hw 224 rfl) (by decide) (rmlit l Z av0 hw [] a35 b35 (((((((((0 + 8) + 0) + 10) + own_sz p1.toInt) + 6) + own_sz q2.toInt) + 2) + own_sz (own_n nb).toInt) + 7) gs35 a82 b82 7 own_t4 ((((((((0 + 8) + 0) + 10) + own_sz p1.toInt) + 6) + own_sz q2.toInt) + 2) + own_sz (own_n nb).toInt) fm wC h82 n0 Z82 (own_Str.mk f84 f85 f86 f87) (own_Str.mk Ds82.E Ds82.C Ds82.V Ds82.A) ⟨hps.2.2.2.2.2.2.2.2, hNK, by decide⟩ sg35_8 hfm f88 f89 hwC) (by decide) (by decide) (g := (mkF m 205 #[iv p0, iv p1, .val (.long q2), .second, iv p3, iv ch5, iv ch6, iv ch7, rv a3, iv (own_n nb), rv b5, rv b9, rv a35, iv ((own_n ((((((((0 + 8) + 0) + 10) + own_sz p1.toInt) + 6) + own_sz q2.toInt) + 2) + own_sz (own_n nb).toInt)))] [(.ref a82), (.int (own_n ((((((((0 + 8) + 0) + 10) + own_sz p1.toInt) + 6) + own_sz q2.toInt) + 2) + own_sz (own_n nb).toInt))), (.ref a35)])) rfl (by rw [hml]; rfl) (argsL := [(.ref a35), (.int (own_n ((((((((0 + 8) + 0) + 10) + own_sz p1.toInt) + 6) + own_sz q2.toInt) + 2) + own_sz (own_n nb).toInt))), (.ref a82)]) (rest := []) (lenOf pd__Ljava_lang_String_ILjava_lang_String_I rfl) rfl (Y at_205) rfl e82 (by decide : 42 + 0 ≤ _) (by decide : 1798 + 0 ≤ _)
  obtain ⟨rfl, N90q, hh90⟩ := hQ90
  have N90 := Fr.app N81 N90q
  have e90 : T90.heap = h82 := hh90
  obtain ⟨_, T91, Lc91, X91, hQ91, st91⟩ := own_virtual (W := 1) (y := mN1) (z := mN1) X90 hx hZ hown (oq hw 228 rfl) (oq hw 77 rfl) (notFace_of_selects (args := #[]) (mvT hZ (oq hw 79 rfl))) (oq hw 79 rfl) (oq hw 78 rfl) (oq hw 80 rfl) (oq hw 1 rfl) (by decide) (rmLen l Z av0 hw [] a35 b35 (((((((((0 + 8) + 0) + 10) + own_sz p1.toInt) + 6) + own_sz q2.toInt) + 2) + own_sz (own_n nb).toInt) + 7) gs35 wC h82 n0 Z82 (own_Str.mk f84 f85 f86 f87) hNK f89 hwC) (by decide) (by decide) f84 (g := (mkF m 214 #[iv p0, iv p1, .val (.long q2), .second, iv p3, iv ch5, iv ch6, iv ch7, rv a3, iv (own_n nb), rv b5, rv b9, rv a35, iv ((own_n (((((((((0 + 8) + 0) + 10) + own_sz p1.toInt) + 6) + own_sz q2.toInt) + 2) + own_sz (own_n nb).toInt) + 7)))] [(.ref a35), (.int (own_n (((((((((0 + 8) + 0) + 10) + own_sz p1.toInt) + 6) + own_sz q2.toInt) + 2) + own_sz (own_n nb).toInt) + 7)))])) rfl (by rw [hml]; rfl) (argsL := []) (rest := [(.int (own_n (((((((((0 + 8) + 0) + 10) + own_sz p1.toInt) + 6) + own_sz q2.toInt) + 2) + own_sz (own_n nb).toInt) + 7)))]) (lenOf pd__I rfl) rfl (Y at_214) rfl e90 (by decide : 42 + 0 ≤ _) (by decide : 1798 + 0 ≤ _)
  obtain ⟨rfl, N91q, hh91⟩ := hQ91
  have N91 := Fr.app N90 N91q
  have e91 : T91.heap = h82 := hh91
  have S92 : ∀ tz, oS p e below T91 (mkF m 225 #[iv p0, iv p1, .val (.long q2), .second, iv p3, iv ch5, iv ch6, iv ch7, rv a3, iv (own_n nb), rv b5, rv b9, rv a35, iv ((own_n (((((((((0 + 8) + 0) + 10) + own_sz p1.toInt) + 6) + own_sz q2.toInt) + 2) + own_sz (own_n nb).toInt) + 7)))] [(.int 1)]) tz → P0 tz := fun tz kz => S83 tz (by
   refine st82 _ ?_
   refine st90 _ ?_
   refine XS.istore X90.here hx rfl (Y at_208) rfl (l' := #[iv p0, iv p1, .val (.long q2), .second, iv p3, iv ch5, iv ch6, iv ch7, rv a3, iv (own_n nb), rv b5, rv b9, rv a35, iv ((own_n (((((((((0 + 8) + 0) + 10) + own_sz p1.toInt) + 6) + own_sz q2.toInt) + 2) + own_sz (own_n nb).toInt) + 7)))]) rfl ?_
   refine XS.iload X90.here hx rfl (Y at_210) rfl ?_
   refine XS.aload X90.here hx rfl (Y at_212) rfl rfl ?_
   refine st91 _ ?_
   refine XS.icmpNo X91.here hx rfl (Y at_217) rfl (XT.ii_ne_f rfl) ?_
   refine XT.iconstV X91.here hx rfl (1 : Int32) (Y at_220) (by decide) ?_
   refine XS.goto X91.here hx rfl (pc0 := 221) (pc' := 225) rfl (Y at_221) (by decide) (by decide) ?_
   show oS p e below T91 (mkF m 225 #[iv p0, iv p1, .val (.long q2), .second, iv p3, iv ch5, iv ch6, iv ch7, rv a3, iv (own_n nb), rv b5, rv b9, rv a35, iv ((own_n (((((((((0 + 8) + 0) + 10) + own_sz p1.toInt) + 6) + own_sz q2.toInt) + 2) + own_sz (own_n nb).toInt) + 7)))] [(.int 1)]) _
   exact kz)
  obtain ⟨fs, hr, hrun, hended, hEnd⟩ := X91.leaveW hS82 (by rw [e91]; exact hk82) (v := some (.int 1)) (fun h => by rw [Bd.returns] at h; cases h)
  refine ⟨_, _, pre0 _ (S92 _ ?_), hrun, hended, _, _, rfl, ?_, (by show CHr Z consts_1 s.vm s.heap T91.vm T91.heap; rw [hh, e91]; exact Rr82.trans (CHv.at (s := s) (vm0 := T82.vm) (show Stand p l e _ (s.setVm T82.vm) m _ below meth c _ _ _ _ from X91) hZ (own_EW hw) Rr82.1)), hEnd.1, hEnd.2.1, hEnd.2.2.1, hEnd.2.2.2.mono (by decide) (by decide)⟩
  · exact retN X91 hx (t := .boolean) Bd.returns (by simp) (Y at_225) hr
  · show Qrm0 Z p0 p1 q2 p3 wC fm dO dX h0 n0 _ T91.heap _
    rw [e91]
    exact ⟨rfl, N91⟩
 ·have S93 : ∀ tz, oS p e below s₁ (mkF m 42 #[iv p0, iv p1, .val (.long q2), .second, iv p3, iv ch5, iv ch6, iv ch7, .unset, .unset, .unset, .unset, .unset, .unset] [(.int 1), (.int ch7)]) tz → P0 tz := fun tz kz => S1 tz (by
   refine XS.ifYes X0.here hx rfl (pc0 := 29) (pc' := 39) rfl (Y at_29) rfl (XT.i0_ne_t hc29_2) (by decide) (by decide) ?_
   refine XS.iload X0.here hx rfl (Y at_39) rfl ?_
   refine XT.iconstV X0.here hx rfl (1 : Int32) (Y at_41) (by decide) ?_
   exact kz)
  by_cases hc42_94 : ch7 = (1 : Int32)
  ·obtain ⟨_, T95, Lc95, X95, hQ95, st95⟩ := own_callS (W := 0) (y := mN46) X0 hx hZ hown (oq hw 304 rfl) (oq hw 305 rfl) (oq hw 1 rfl) (oq hw 306 rfl) (by decide) (rmVO l Z av0 hw [] ch5 wC h0 n0 Z0 hch5 hSC hwC) (by decide) (by decide) (g := (mkF m 47 #[iv p0, iv p1, .val (.long q2), .second, iv p3, iv ch5, iv ch6, iv ch7, .unset, .unset, .unset, .unset, .unset, .unset] [(.int ch5)])) rfl (by rw [hml]; rfl) (argsL := [(.int ch5)]) (rest := []) (lenOf pd__C_Ljava_lang_String_ rfl) rfl (Y at_47) rfl e0 (by decide : 0 + 2 ≤ _) (by decide : 0 + 5 ≤ _)
   obtain ⟨a95, b95, gv95, rfl, N95q, K95, Ds95, ga95, gb95⟩ := hQ95
   have N95 := Fr.app N0 N95q
   have e95 : T95.heap = T95.heap := rfl
   have ne_dO_a95 : dO ≠ a95 := Nat.ne_of_lt (Nat.lt_of_lt_of_le hAO.lt ga95)
   have ne_dX_a95 : dX ≠ a95 := Nat.ne_of_lt (Nat.lt_of_lt_of_le hAX.lt ga95)
   have ge_a95 : n0 ≤ a95 := Nat.le_trans Z0 ga95
   have sz_a95 : h0.size ≤ a95 := ga95
   have ne_dO_b95 : dO ≠ b95 := Nat.ne_of_lt (Nat.lt_of_lt_of_le hAO.lt gb95)
   have ne_dX_b95 : dX ≠ b95 := Nat.ne_of_lt (Nat.lt_of_lt_of_le hAX.lt gb95)
   have ge_b95 : n0 ≤ b95 := Nat.le_trans Z0 gb95
   have sz_b95 : h0.size ≤ b95 := gb95
   have Rr96 := (CHr.refl hI).trans (CHr.keep K95 all0 (CHr.refl hI).1)
   have Zk95 : n0 ≤ T95.heap.size := Nat.le_trans Z0 K95.1
   have Kk95 : Keep h0 T95.heap [] := (Keep.refl h0 []).trans K95 all0
   obtain ⟨nb, hnb, hnb15⟩ := own_n15 p3
   obtain ⟨T97, h97, k97, X97, e97, E97, A97, Ex97, st97⟩ := own_newX X95 hx hZ (oq hw 3 rfl) e95 (g := (mkF m 86 #[iv p0, iv p1, .val (.long q2), .second, iv p3, iv ch5, iv ch6, iv ch7, rv a95, iv (own_n nb), .unset, .unset, .unset, .unset] [(.int (own_n nb))])) rfl (Y at_86) rfl (own_nge (Nat.lt_of_le_of_lt hnb15 (by decide))) (cap := 15) (by rw [own_nc (Nat.lt_of_le_of_lt hnb15 (by decide))]; exact hnb15) (by decide) (by decide) (by decide)
   obtain ⟨b97, g97⟩ : ∃ z, z = T95.heap.size := ⟨_, rfl⟩
   rw [← g97] at A97 st97
   have ne_a95_b97 : a95 ≠ b97 := Nat.ne_of_lt (Nat.lt_of_lt_of_le Ds95.E.lt (Nat.le_of_eq g97.symm))
   have ne_b95_b97 : b95 ≠ b97 := Nat.ne_of_lt (Nat.lt_of_lt_of_le Ds95.A.lt (Nat.le_of_eq g97.symm))
   have f98 := (hAO.keep K95 nin0)
   have ne_dO_b97 : dO ≠ b97 := Nat.ne_of_lt (Nat.lt_of_lt_of_le f98.lt (Nat.le_of_eq g97.symm))
   have f99 := (hAX.keep K95 nin0)
   have ne_dX_b97 : dX ≠ b97 := Nat.ne_of_lt (Nat.lt_of_lt_of_le f99.lt (Nat.le_of_eq g97.symm))
   have ge_b97 : n0 ≤ b97 := Nat.le_trans Zk95 (Nat.le_of_eq g97.symm)
   have sz_b97 : h0.size ≤ b97 := Nat.le_trans Kk95.1 (Nat.le_of_eq g97.symm)
   have sf97_b97 : Safe Z consts_1 s.vm _ b97 := Safe.new (Nat.le_of_eq g97.symm)
   have sf100_b97 := Safe.ext E97 Rr96.1 sf97_b97
   have Rr100 := Rr96.trans (CHr.ext E97 Rr96.1)
   have Z97 : n0 ≤ h97.size := Nat.le_trans Zk95 E97.1
   have K97 : Keep h0 h97 [] := Kk95.ext E97
   have V97 : own_Ab Z h97 b97 nb (fun _ => 0) := own_newB nb (by omega) A97
   rw [← g97] at Ex97
   obtain ⟨T101, h101, X101, e101, E101, A101, D101, -, st101⟩ := newO X97 hx hZ hown (oq hw 8 rfl) (oq hw 9 rfl) (oq hw 10 rfl) e97 (g := (mkF m 90 #[iv p0, iv p1, .val (.long q2), .second, iv p3, iv ch5, iv ch6, iv ch7, rv a95, iv (own_n nb), rv b97, .unset, .unset, .unset] [])) rfl (Y at_90) (by decide) (by decide)
   obtain ⟨b101, g101⟩ : ∃ z, z = h97.size := ⟨_, rfl⟩
   rw [← g101] at A101 D101 st101
   have f102 := (Ds95.E.ext E97)
   have ne_a95_b101 : a95 ≠ b101 := Nat.ne_of_lt (Nat.lt_of_lt_of_le f102.lt (Nat.le_of_eq g101.symm))
   have f103 := (Ds95.A.ext E97)
   have ne_b95_b101 : b95 ≠ b101 := Nat.ne_of_lt (Nat.lt_of_lt_of_le f103.lt (Nat.le_of_eq g101.symm))
   have ne_b97_b101 : b97 ≠ b101 := Nat.ne_of_lt (Nat.lt_of_lt_of_le Ex97.lt (Nat.le_of_eq g101.symm))
   have f104 := (f98.ext E97)
   have ne_dO_b101 : dO ≠ b101 := Nat.ne_of_lt (Nat.lt_of_lt_of_le f104.lt (Nat.le_of_eq g101.symm))
   have f105 := (f99.ext E97)
   have ne_dX_b101 : dX ≠ b101 := Nat.ne_of_lt (Nat.lt_of_lt_of_le f105.lt (Nat.le_of_eq g101.symm))
   have ge_b101 : n0 ≤ b101 := Nat.le_trans Z97 (Nat.le_of_eq g101.symm)
   have sz_b101 : h0.size ≤ b101 := Nat.le_trans K97.1 (Nat.le_of_eq g101.symm)
   have sf101_b101 : Safe Z consts_1 s.vm _ b101 := Safe.new (Nat.le_of_eq g101.symm)
   have sf106_b97 := Safe.ext E101 Rr100.1 sf100_b97
   have sf106_b101 := Safe.ext E101 Rr100.1 sf101_b101
   have Rr106 := Rr100.trans (CHr.ext E101 Rr100.1)
   have Z101 : n0 ≤ h101.size := Nat.le_trans Z97 E101.1
   have K101 : Keep h0 h101 [] := K97.ext E101
   have F101_mId : Fld Z h101 b101 "com/example/campofelice/campofelice/Message" "mId" "Ljava/lang/String;" .null := D101 (Or.inr (oq hw 25 rfl)) (ty := (.object "java/lang/String")) (by decide)
   have F101_mBody : Fld Z h101 b101 "com/example/campofelice/campofelice/Message" "mBody" "[B" .null := D101 (Or.inr (oq hw 37 rfl)) (ty := (.array .byte)) (by decide)
   have F101_mAttempt : Fld Z h101 b101 "com/example/campofelice/campofelice/Message" "mAttempt" "I" (.int 0) := D101 (Or.inr (oq hw 39 rfl)) (ty := .int) (by decide)
   have F101_mDueTime : Fld Z h101 b101 "com/example/campofelice/campofelice/Message" "mDueTime" "J" (.long 0) := D101 (Or.inr (oq hw 41 rfl)) (ty := .long) (by decide)
   have f107 := (f102.ext E101)
   have f108 := ((Ds95.C.ext E97).ext E101)
   have f109 := ((Ds95.V.ext E97).ext E101)
   have f110 := (f103.ext E101)
   have f111 := (V97.ext E101)
   have f112 := (Ex97.ext E101)
   have S114 : ∀ tz, oS p e below T101 (mkF m 100 #[iv p0, iv p1, .val (.long q2), .second, iv p3, iv ch5, iv ch6, iv ch7, rv a95, iv (own_n nb), rv b97, .unset, .unset, .unset] [(.long q2), (.int p1), (.ref b97), (.ref a95), (.ref b101), (.ref b101)]) tz → P0 tz := fun tz kz => S93 tz (by
    refine XS.icmpNo X0.here hx rfl (Y at_42) rfl (XT.ii_ne_f hc42_94) ?_
    refine XS.iload X0.here hx rfl (Y at_45) rfl ?_
    refine st95 _ ?_
    refine XS.astore X95.here hx rfl (Y at_50) rfl rfl (l' := #[iv p0, iv p1, .val (.long q2), .second, iv p3, iv ch5, iv ch6, iv ch7, rv a95, .unset, .unset, .unset, .unset, .unset]) rfl ?_
    refine XS.goto X95.here hx rfl (pc0 := 52) (pc' := 77) rfl (Y at_52) (by decide) (by decide) ?_
    show oS p e below T95 (mkF m 77 #[iv p0, iv p1, .val (.long q2), .second, iv p3, iv ch5, iv ch6, iv ch7, rv a95, .unset, .unset, .unset, .unset, .unset] []) _
    refine XS.iload X95.here hx rfl (Y at_77) rfl ?_
    refine XT.bipushV X95.here hx rfl (15 : Int32) (Y at_79) (by decide) ?_
    refine XS.iand X95.here hx rfl (Y at_81) rfl ?_
    refine XS.istore X95.here hx rfl (Y at_82) rfl (l' := #[iv p0, iv p1, .val (.long q2), .second, iv p3, iv ch5, iv ch6, iv ch7, rv a95, iv ((p3 &&& (15 : Int32))), .unset, .unset, .unset, .unset]) rfl ?_
    show oS p e below T95 (mkF m 84 #[iv p0, iv p1, .val (.long q2), .second, iv p3, iv ch5, iv ch6, iv ch7, rv a95, iv ((p3 &&& (15 : Int32))), .unset, .unset, .unset, .unset] []) _
    rw [hnb]
    show oS p e below T95 (mkF m 84 #[iv p0, iv p1, .val (.long q2), .second, iv p3, iv ch5, iv ch6, iv ch7, rv a95, iv (own_n nb), .unset, .unset, .unset, .unset] []) _
    refine XS.iload X95.here hx rfl (Y at_84) rfl ?_
    refine st97 _ ?_
    refine XS.astore X97.here hx rfl (Y at_88) rfl rfl (l' := #[iv p0, iv p1, .val (.long q2), .second, iv p3, iv ch5, iv ch6, iv ch7, rv a95, iv (own_n nb), rv b97, .unset, .unset, .unset]) rfl ?_
    refine st101 _ ?_
    refine XS.dup X101.here hx rfl (Y at_93) rfl rfl ?_
    show oS p e below T101 (mkF m 94 #[iv p0, iv p1, .val (.long q2), .second, iv p3, iv ch5, iv ch6, iv ch7, rv a95, iv (own_n nb), rv b97, .unset, .unset, .unset] [(.ref b101), (.ref b101)]) _
    refine XS.aload X101.here hx rfl (Y at_94) rfl rfl ?_
    refine XS.aload X101.here hx rfl (Y at_96) rfl rfl ?_
    refine XS.iloadN X101.here hx rfl (Y at_98) rfl ?_
    refine XT.lloadN X101.here hx rfl (Y at_99) rfl ?_
    exact kz)
   obtain ⟨_, T113, Lc113, X113, hS113, hZ, hown, R113, hQ113, st113⟩ := own_specialH (vm0 := s.vm) (EL := consts_1) (W := 1) (y := mN53) (show Stand p l e _ (s.setVm s.vm) m _ below meth c _ _ _ _ from X101) hx hZ rfl hown (oq hw 11 rfl) (oq hw 12 rfl) (oq hw 13 rfl) (oq hw 10 rfl) (by decide) (rmMI l Z av0 hw [] b101 a95 b95 1 gv95 b97 nb (fun _ => 0) p1 q2 h101 n0 Z101 A101 F101_mId F101_mBody F101_mAttempt F101_mDueTime ge_b101 (own_Str.mk f107 f108 f109 f110) f111 f112 ne_a95_b101 ne_b95_b101 ne_b97_b101 hnb15) (by decide) (by decide) (own_EW hw) Rr106.1 ((State.WarmedH.refl s).since 0) (Nat.zero_le _) (g := (mkF m 100 #[iv p0, iv p1, .val (.long q2), .second, iv p3, iv ch5, iv ch6, iv ch7, rv a95, iv (own_n nb), rv b97, .unset, .unset, .unset] [(.long q2), (.int p1), (.ref b97), (.ref a95), (.ref b101), (.ref b101)])) rfl (by rw [hml]; rfl) (a := b101) (argsL := [(.ref a95), (.ref b97), (.int p1), (.long q2)]) (rest := [(.ref b101)]) (lenOf pd__Ljava_lang_String_A_BIJ_V rfl) rfl (Y at_100) rfl e101 (by decide : 4 + 5 ≤ _) (by decide : 24 + 47 ≤ _)
   have sf113_b97 := R113.safe f112.lt sf106_b97
   have sf113_b101 := R113.safe A101.lt sf106_b101
   have Rr113 := Rr106.trans R113
   obtain ⟨rfl, N113q, b113, K113, FmId113, FmBody113, FmAttempt113, FmDueTime113, V113, gb113⟩ := hQ113
   have N113 := Fr.app N95 N113q
   have e113 : T113.heap = T113.heap := rfl
   have ne_a95_b113 : a95 ≠ b113 := Nat.ne_of_lt (Nat.lt_of_lt_of_le f107.lt gb113)
   have ne_b101_b113 : b101 ≠ b113 := Nat.ne_of_lt (Nat.lt_of_lt_of_le A101.lt gb113)
   have ne_b95_b113 : b95 ≠ b113 := Nat.ne_of_lt (Nat.lt_of_lt_of_le f110.lt gb113)
   have ne_b97_b113 : b97 ≠ b113 := Nat.ne_of_lt (Nat.lt_of_lt_of_le f112.lt gb113)
   have f115 := (f104.ext E101)
   have ne_dO_b113 : dO ≠ b113 := Nat.ne_of_lt (Nat.lt_of_lt_of_le f115.lt gb113)
   have f116 := (f105.ext E101)
   have ne_dX_b113 : dX ≠ b113 := Nat.ne_of_lt (Nat.lt_of_lt_of_le f116.lt gb113)
   have ge_b113 : n0 ≤ b113 := Nat.le_trans Z101 gb113
   have sz_b113 : h0.size ≤ b113 := Nat.le_trans K101.1 gb113
   have Zk113 : n0 ≤ T113.heap.size := Nat.le_trans Z101 K113.1
   have Kk113 : Keep h0 T113.heap [] := K101.trans K113 (allS (Or.inr sz_b101) all0)
   have f117 := (A101.keep K113)
   have f118 := (f107.keep K113)
   have f119 := (f108.keep K113 (ninS ne_a95_b101 nin0))
   have f120 := (f109.keep K113 (ninS ne_a95_b101 nin0))
   have f121 := (f110.keep K113 (ninS ne_b95_b101 nin0))
   have f122 := (own_stak (((own_stak hSO K95 all0).ext E97).ext E101) K113 (allS (own_exns A101) all0))
   have f123 := (own_stak (((own_stak hSX K95 all0).ext E97).ext E101) K113 (allS (own_exns A101) all0))
   have f124 := (f115.keep K113 (ninS ne_dO_b101 nin0))
   have f125 := (f116.keep K113 (ninS ne_dX_b101 nin0))
   have f126 := (own_stak (((own_stak hSC K95 all0).ext E97).ext E101) K113 (allS (own_exns A101) all0))
   have S128 : ∀ tz, oS p e below T113 (mkF m 107 #[iv p0, iv p1, .val (.long q2), .second, iv p3, iv ch5, iv ch6, iv ch7, rv a95, iv (own_n nb), rv b97, rv b101, .unset, .unset] [(.ref b101)]) tz → P0 tz := fun tz kz => S114 tz (by
    refine st113 _ ?_
    refine XS.astore X113.here hx rfl (Y at_103) rfl rfl (l' := #[iv p0, iv p1, .val (.long q2), .second, iv p3, iv ch5, iv ch6, iv ch7, rv a95, iv (own_n nb), rv b97, rv b101, .unset, .unset]) rfl ?_
    refine XS.aload X113.here hx rfl (Y at_105) rfl rfl ?_
    exact kz)
   obtain ⟨_, T127, Lc127, X127, hS127, hZ, hown, R127, hQ127, st127⟩ := own_virtualH (vm0 := T113.vm) (EL := consts_1) (W := 0) (y := mN54) (z := mN54) (show Stand p l e _ (s.setVm T113.vm) m _ below meth c _ _ _ _ from X113) hx hZ hown (oq hw 42 rfl) (oq hw 43 rfl) (notFace_of_selects (args := #[]) (mvT hZ (oq hw 45 rfl))) (oq hw 45 rfl) (oq hw 44 rfl) (oq hw 46 rfl) (oq hw 10 rfl) (by decide) (rmMT l Z av0 hw [] b101 a95 b95 1 gv95 b113 nb (fun _ => 0) p1 q2 dO dX wC T113.heap n0 Zk113 f117 FmId113 FmBody113 FmAttempt113 FmDueTime113 (own_Str.mk f118 f119 f120 f121) V113 f122 f123 f124 f125 (by decide) hnb15 f126 hwC) (by decide) (by decide) (own_EW hw) Rr113.1 hS113 (Nat.le_refl _) f117 (g := (mkF m 107 #[iv p0, iv p1, .val (.long q2), .second, iv p3, iv ch5, iv ch6, iv ch7, rv a95, iv (own_n nb), rv b97, rv b101, .unset, .unset] [(.ref b101)])) rfl (by rw [hml]; rfl) (argsL := []) (rest := []) (lenOf pd__Ljava_lang_String_ rfl) rfl (Y at_107) rfl e113 (by decide : 9 + 23 ≤ _) (by decide : 71 + 1576 ≤ _)
   have f129 := (f112.keep K113)
   have sf127_b97 := R127.safe f129.lt sf113_b97
   have sf127_b101 := R127.safe f117.lt sf113_b101
   have Rr127 := Rr113.trans R127
   obtain ⟨a127, b127, gs127, rfl, N127q, K127, Ds127, sg127_0, sg127_1, sg127_2, sg127_3, sg127_4, sg127_5, sg127_6, sg127_7, sg127_8⟩ := hQ127
   have N127 := Fr.app N113 N127q
   have e127 : T127.heap = T127.heap := rfl
   have Zk127 : n0 ≤ T127.heap.size := Nat.le_trans Zk113 K127.1
   have Kk127 : Keep h0 T127.heap [] := Kk113.trans K127 all0
   have hps := own_pos 1 (own_sz p1.toInt) (own_sz q2.toInt) (own_sz (own_n nb).toInt)
   have hbs := own_bds (nt := 1) (by decide) (own_szI p1) (own_szL q2) (own_szB hnb15)
   have hNK : (((((((((0 + 8) + 1) + 10) + own_sz p1.toInt) + 6) + own_sz q2.toInt) + 2) + own_sz (own_n nb).toInt) + 7) < 1000 := hbs.2.2.2.2.2.2.2.2.2.2.2
   have S131 : ∀ tz, oS p e below T127 (mkF m 115 #[iv p0, iv p1, .val (.long q2), .second, iv p3, iv ch5, iv ch6, iv ch7, rv a95, iv (own_n nb), rv b97, rv b101, rv a127, .unset] [(.int 0), (.ref a127)]) tz → P0 tz := fun tz kz => S128 tz (by
    refine st127 _ ?_
    refine XS.astore X127.here hx rfl (Y at_110) rfl rfl (l' := #[iv p0, iv p1, .val (.long q2), .second, iv p3, iv ch5, iv ch6, iv ch7, rv a95, iv (own_n nb), rv b97, rv b101, rv a127, .unset]) rfl ?_
    refine XS.aload X127.here hx rfl (Y at_112) rfl rfl ?_
    show oS p e below T127 (mkF m 114 #[iv p0, iv p1, .val (.long q2), .second, iv p3, iv ch5, iv ch6, iv ch7, rv a95, iv (own_n nb), rv b97, rv b101, rv a127, .unset] [(.ref a127)]) _
    refine XT.iconstV X127.here hx rfl (0 : Int32) (Y at_114) (by decide) ?_
    exact kz)
   obtain ⟨a130, T130, h130, ks130, b130, k130, X130, e130, E130, hS130, hk130, hZ, hown, Ea130, Fc130, Fv130, Av130, la130, lb130, R130, Li130, sn130, st130⟩ := ldcCH (s := s) (vm0 := T127.vm) (show Stand p l e _ (s.setVm T127.vm) m _ below meth c _ _ _ _ from X127) hx hZ hown (oq hw 220 rfl) (own_wS hw) e127 hS127 (Nat.le_refl _) (own_EW hw) (List.mem_of_getElem? (i := 8) rfl : _ ∈ consts_1) Rr127.1 (vs := own_vl 8 own_t0) (z := own_n 8) own_e0 (own_nge (by decide)) (by rw [own_vlen]; exact own_nc (by decide)) (g := (mkF m 115 #[iv p0, iv p1, .val (.long q2), .second, iv p3, iv ch5, iv ch6, iv ch7, rv a95, iv (own_n nb), rv b97, rv b101, rv a127, .unset] [(.int 0), (.ref a127)])) rfl (Y at_115) (n := 32) (by decide) (by decide) (by decide) (by decide)
   have Rr130 := Rr127.trans R130
   have Z130 : n0 ≤ h130.size := Nat.le_trans Zk127 E130.1
   have K130 : Keep h0 h130 [] := Kk127.ext E130
   have Ds130 : own_Str Z h130 a130 b130 8 own_t0 := own_Str.mk Ea130 Fc130 Fv130 ⟨_, Av130⟩
   have f132 := (Ds127.E.ext E130)
   have f133 := (Ds127.C.ext E130)
   have f134 := (Ds127.V.ext E130)
   have f135 := (Ds127.A.ext E130)
   have f136 := ((own_stak (own_stak (((own_stak hFm K95 all0).ext E97).ext E101) K113 (allS (own_exns A101) all0)) K127 all0).ext E130)
   have f137 := ((own_stak f126 K127 all0).ext E130)
   obtain ⟨_, T138, Lc138, X138, hQ138, st138⟩ := own_callS (W := 0) (y := mN39) X130 hx hZ hown (oq hw 221 rfl) (oq hw 222 rfl) (oq hw 223 rfl) (oq hw 224 rfl) (by decide) (rmlit l Z av0 hw [] a127 b127 (((((((((0 + 8) + 1) + 10) + own_sz p1.toInt) + 6) + own_sz q2.toInt) + 2) + own_sz (own_n nb).toInt) + 7) gs127 a130 b130 8 own_t0 0 fm wC h130 n0 Z130 (own_Str.mk f132 f133 f134 f135) (own_Str.mk Ds130.E Ds130.C Ds130.V Ds130.A) ⟨hps.1, hNK, by decide⟩ sg127_0 hfm f136 f137 hwC) (by decide) (by decide) (g := (mkF m 117 #[iv p0, iv p1, .val (.long q2), .second, iv p3, iv ch5, iv ch6, iv ch7, rv a95, iv (own_n nb), rv b97, rv b101, rv a127, .unset] [(.ref a130), (.int 0), (.ref a127)])) rfl (by rw [hml]; rfl) (argsL := [(.ref a127), (.int 0), (.ref a130)]) (rest := []) (lenOf pd__Ljava_lang_String_ILjava_lang_String_I rfl) rfl (Y at_117) rfl e130 (by decide : 34 + 0 ≤ _) (by decide : 1683 + 0 ≤ _)
   obtain ⟨rfl, N138q, hh138⟩ := hQ138
   have N138 := Fr.app N127 N138q
   have e138 : T138.heap = h130 := hh138
   have f139 := ((f118.keep K127).ext E130)
   have f140 := ((f119.keep K127 nin0).ext E130)
   have f141 := ((f120.keep K127 nin0).ext E130)
   have f142 := ((f121.keep K127 nin0).ext E130)
   obtain ⟨_, T143, Lc143, X143, hQ143, st143⟩ := own_callS (W := 0) (y := mN39) X138 hx hZ hown (oq hw 221 rfl) (oq hw 222 rfl) (oq hw 223 rfl) (oq hw 224 rfl) (by decide) (rmlit l Z av0 hw [] a127 b127 (((((((((0 + 8) + 1) + 10) + own_sz p1.toInt) + 6) + own_sz q2.toInt) + 2) + own_sz (own_n nb).toInt) + 7) gs127 a95 b95 1 gv95 (0 + 8) fm wC h130 n0 Z130 (own_Str.mk f132 f133 f134 f135) (own_Str.mk f139 f140 f141 f142) ⟨hps.2.1, hNK, by decide⟩ sg127_1 hfm f136 f137 hwC) (by decide) (by decide) (g := (mkF m 128 #[iv p0, iv p1, .val (.long q2), .second, iv p3, iv ch5, iv ch6, iv ch7, rv a95, iv (own_n nb), rv b97, rv b101, rv a127, iv ((own_n (0 + 8)))] [(.ref a95), (.int (own_n (0 + 8))), (.ref a127)])) rfl (by rw [hml]; rfl) (argsL := [(.ref a127), (.int (own_n (0 + 8))), (.ref a95)]) (rest := []) (lenOf pd__Ljava_lang_String_ILjava_lang_String_I rfl) rfl (Y at_128) rfl e138 (by decide : 34 + 0 ≤ _) (by decide : 1683 + 0 ≤ _)
   obtain ⟨rfl, N143q, hh143⟩ := hQ143
   have N143 := Fr.app N138 N143q
   have e143 : T143.heap = h130 := hh143
   have S145 : ∀ tz, oS p e below T143 (mkF m 137 #[iv p0, iv p1, .val (.long q2), .second, iv p3, iv ch5, iv ch6, iv ch7, rv a95, iv (own_n nb), rv b97, rv b101, rv a127, iv ((own_n ((0 + 8) + 1)))] [(.int (own_n ((0 + 8) + 1))), (.ref a127)]) tz → P0 tz := fun tz kz => S131 tz (by
    refine st130 _ ?_
    refine st138 _ ?_
    refine XS.istore X138.here hx rfl (Y at_120) rfl (l' := #[iv p0, iv p1, .val (.long q2), .second, iv p3, iv ch5, iv ch6, iv ch7, rv a95, iv (own_n nb), rv b97, rv b101, rv a127, iv ((own_n (0 + 8)))]) rfl ?_
    refine XS.aload X138.here hx rfl (Y at_122) rfl rfl ?_
    refine XS.iload X138.here hx rfl (Y at_124) rfl ?_
    refine XS.aload X138.here hx rfl (Y at_126) rfl rfl ?_
    refine st143 _ ?_
    refine XS.istore X143.here hx rfl (Y at_131) rfl (l' := #[iv p0, iv p1, .val (.long q2), .second, iv p3, iv ch5, iv ch6, iv ch7, rv a95, iv (own_n nb), rv b97, rv b101, rv a127, iv ((own_n ((0 + 8) + 1)))]) rfl ?_
    refine XS.aload X143.here hx rfl (Y at_133) rfl rfl ?_
    show oS p e below T143 (mkF m 135 #[iv p0, iv p1, .val (.long q2), .second, iv p3, iv ch5, iv ch6, iv ch7, rv a95, iv (own_n nb), rv b97, rv b101, rv a127, iv ((own_n ((0 + 8) + 1)))] [(.ref a127)]) _
    refine XS.iload X143.here hx rfl (Y at_135) rfl ?_
    exact kz)
   obtain ⟨a144, T144, h144, ks144, b144, k144, X144, e144, E144, hS144, hk144, hZ, hown, Ea144, Fc144, Fv144, Av144, la144, lb144, R144, Li144, sn144, st144⟩ := ldcCH (s := s) (vm0 := T130.vm) (show Stand p l e _ (s.setVm T130.vm) m _ below meth c _ _ _ _ from X143) hx hZ hown (oq hw 251 rfl) (own_wS hw) e143 hS130 hk130 (own_EW hw) (List.mem_of_getElem? (i := 9) rfl : _ ∈ consts_1) Rr130.1 (vs := own_vl 10 own_t1) (z := own_n 10) own_e1 (own_nge (by decide)) (by rw [own_vlen]; exact own_nc (by decide)) (g := (mkF m 137 #[iv p0, iv p1, .val (.long q2), .second, iv p3, iv ch5, iv ch6, iv ch7, rv a95, iv (own_n nb), rv b97, rv b101, rv a127, iv ((own_n ((0 + 8) + 1)))] [(.int (own_n ((0 + 8) + 1))), (.ref a127)])) rfl (Y at_137) (n := 40) (by decide) (by decide) (by decide) (by decide)
   have Rr144 := Rr130.trans R144
   have Z144 : n0 ≤ h144.size := Nat.le_trans Z130 E144.1
   have K144 : Keep h0 h144 [] := K130.ext E144
   have Ds144 : own_Str Z h144 a144 b144 10 own_t1 := own_Str.mk Ea144 Fc144 Fv144 ⟨_, Av144⟩
   have f146 := (f132.ext E144)
   have f147 := (f133.ext E144)
   have f148 := (f134.ext E144)
   have f149 := (f135.ext E144)
   have f150 := (f136.ext E144)
   have f151 := (f137.ext E144)
   obtain ⟨_, T152, Lc152, X152, hQ152, st152⟩ := own_callS (W := 0) (y := mN39) X144 hx hZ hown (oq hw 221 rfl) (oq hw 222 rfl) (oq hw 223 rfl) (oq hw 224 rfl) (by decide) (rmlit l Z av0 hw [] a127 b127 (((((((((0 + 8) + 1) + 10) + own_sz p1.toInt) + 6) + own_sz q2.toInt) + 2) + own_sz (own_n nb).toInt) + 7) gs127 a144 b144 10 own_t1 ((0 + 8) + 1) fm wC h144 n0 Z144 (own_Str.mk f146 f147 f148 f149) (own_Str.mk Ds144.E Ds144.C Ds144.V Ds144.A) ⟨hps.2.2.1, hNK, by decide⟩ sg127_2 hfm f150 f151 hwC) (by decide) (by decide) (g := (mkF m 139 #[iv p0, iv p1, .val (.long q2), .second, iv p3, iv ch5, iv ch6, iv ch7, rv a95, iv (own_n nb), rv b97, rv b101, rv a127, iv ((own_n ((0 + 8) + 1)))] [(.ref a144), (.int (own_n ((0 + 8) + 1))), (.ref a127)])) rfl (by rw [hml]; rfl) (argsL := [(.ref a127), (.int (own_n ((0 + 8) + 1))), (.ref a144)]) (rest := []) (lenOf pd__Ljava_lang_String_ILjava_lang_String_I rfl) rfl (Y at_139) rfl e144 (by decide : 36 + 0 ≤ _) (by decide : 1727 + 0 ≤ _)
   obtain ⟨rfl, N152q, hh152⟩ := hQ152
   have N152 := Fr.app N143 N152q
   have e152 : T152.heap = h144 := hh152
   obtain ⟨_, T153, Lc153, X153, hQ153, st153⟩ := own_callS (W := 0) (y := mN42) X152 hx hZ hown (oq hw 252 rfl) (oq hw 253 rfl) (oq hw 223 rfl) (oq hw 254 rfl) (by decide) (rmnum l Z av0 hw [] a127 b127 (((((((((0 + 8) + 1) + 10) + own_sz p1.toInt) + 6) + own_sz q2.toInt) + 2) + own_sz (own_n nb).toInt) + 7) gs127 (((0 + 8) + 1) + 10) ((p1).toInt64) fm wC h144 n0 Z144 (own_Str.mk f146 f147 f148 f149) (by rw [own_i2l]; exact ⟨hps.2.2.2.1, hNK⟩) (by rw [own_i2l]; exact sg127_3) hfm f150 f151 hwC) (by decide) (by decide) (g := (mkF m 150 #[iv p0, iv p1, .val (.long q2), .second, iv p3, iv ch5, iv ch6, iv ch7, rv a95, iv (own_n nb), rv b97, rv b101, rv a127, iv ((own_n (((0 + 8) + 1) + 10)))] [(.long (p1).toInt64), (.int (own_n (((0 + 8) + 1) + 10))), (.ref a127)])) rfl (by rw [hml]; rfl) (argsL := [(.ref a127), (.int (own_n (((0 + 8) + 1) + 10))), (.long (p1).toInt64)]) (rest := []) (lenOf pd__Ljava_lang_String_IJ_I rfl) rfl (Y at_150) rfl e152 (by decide : 36 + 0 ≤ _) (by decide : 1727 + 0 ≤ _)
   obtain ⟨rfl, N153q, hh153⟩ := hQ153
   have N153 := Fr.app N152 N153q
   have e153 : T153.heap = h144 := hh153
   have S155 : ∀ tz, oS p e below T153 (mkF m 159 #[iv p0, iv p1, .val (.long q2), .second, iv p3, iv ch5, iv ch6, iv ch7, rv a95, iv (own_n nb), rv b97, rv b101, rv a127, iv ((own_n ((((0 + 8) + 1) + 10) + own_sz p1.toInt)))] [(.int (own_n ((((0 + 8) + 1) + 10) + own_sz p1.toInt))), (.ref a127)]) tz → P0 tz := fun tz kz => S145 tz (by
    refine st144 _ ?_
    refine st152 _ ?_
    refine XS.istore X152.here hx rfl (Y at_142) rfl (l' := #[iv p0, iv p1, .val (.long q2), .second, iv p3, iv ch5, iv ch6, iv ch7, rv a95, iv (own_n nb), rv b97, rv b101, rv a127, iv ((own_n (((0 + 8) + 1) + 10)))]) rfl ?_
    refine XS.aload X152.here hx rfl (Y at_144) rfl rfl ?_
    refine XS.iload X152.here hx rfl (Y at_146) rfl ?_
    refine XS.iloadN X152.here hx rfl (Y at_148) rfl ?_
    refine XT.i2l X152.here hx rfl (Y at_149) rfl ?_
    refine st153 _ ?_
    show oS p e below T153 (mkF m 153 #[iv p0, iv p1, .val (.long q2), .second, iv p3, iv ch5, iv ch6, iv ch7, rv a95, iv (own_n nb), rv b97, rv b101, rv a127, iv ((own_n (((0 + 8) + 1) + 10)))] [(.int (own_n ((((0 + 8) + 1) + 10) + own_sz ((p1).toInt64).toInt)))]) _
    rw [own_i2l]
    show oS p e below T153 (mkF m 153 #[iv p0, iv p1, .val (.long q2), .second, iv p3, iv ch5, iv ch6, iv ch7, rv a95, iv (own_n nb), rv b97, rv b101, rv a127, iv ((own_n (((0 + 8) + 1) + 10)))] [(.int (own_n ((((0 + 8) + 1) + 10) + own_sz p1.toInt)))]) _
    refine XS.istore X153.here hx rfl (Y at_153) rfl (l' := #[iv p0, iv p1, .val (.long q2), .second, iv p3, iv ch5, iv ch6, iv ch7, rv a95, iv (own_n nb), rv b97, rv b101, rv a127, iv ((own_n ((((0 + 8) + 1) + 10) + own_sz p1.toInt)))]) rfl ?_
    refine XS.aload X153.here hx rfl (Y at_155) rfl rfl ?_
    refine XS.iload X153.here hx rfl (Y at_157) rfl ?_
    exact kz)
   obtain ⟨a154, T154, h154, ks154, b154, k154, X154, e154, E154, hS154, hk154, hZ, hown, Ea154, Fc154, Fv154, Av154, la154, lb154, R154, Li154, sn154, st154⟩ := ldcCH (s := s) (vm0 := T144.vm) (show Stand p l e _ (s.setVm T144.vm) m _ below meth c _ _ _ _ from X153) hx hZ hown (oq hw 279 rfl) (own_wS hw) e153 hS144 hk144 (own_EW hw) (List.mem_of_getElem? (i := 10) rfl : _ ∈ consts_1) Rr144.1 (vs := own_vl 6 own_t2) (z := own_n 6) own_e2 (own_nge (by decide)) (by rw [own_vlen]; exact own_nc (by decide)) (g := (mkF m 159 #[iv p0, iv p1, .val (.long q2), .second, iv p3, iv ch5, iv ch6, iv ch7, rv a95, iv (own_n nb), rv b97, rv b101, rv a127, iv ((own_n ((((0 + 8) + 1) + 10) + own_sz p1.toInt)))] [(.int (own_n ((((0 + 8) + 1) + 10) + own_sz p1.toInt))), (.ref a127)])) rfl (Y at_159) (n := 24) (by decide) (by decide) (by decide) (by decide)
   have Rr154 := Rr144.trans R154
   have Z154 : n0 ≤ h154.size := Nat.le_trans Z144 E154.1
   have K154 : Keep h0 h154 [] := K144.ext E154
   have Ds154 : own_Str Z h154 a154 b154 6 own_t2 := own_Str.mk Ea154 Fc154 Fv154 ⟨_, Av154⟩
   have f156 := (f146.ext E154)
   have f157 := (f147.ext E154)
   have f158 := (f148.ext E154)
   have f159 := (f149.ext E154)
   have f160 := (f150.ext E154)
   have f161 := (f151.ext E154)
   obtain ⟨_, T162, Lc162, X162, hQ162, st162⟩ := own_callS (W := 0) (y := mN39) X154 hx hZ hown (oq hw 221 rfl) (oq hw 222 rfl) (oq hw 223 rfl) (oq hw 224 rfl) (by decide) (rmlit l Z av0 hw [] a127 b127 (((((((((0 + 8) + 1) + 10) + own_sz p1.toInt) + 6) + own_sz q2.toInt) + 2) + own_sz (own_n nb).toInt) + 7) gs127 a154 b154 6 own_t2 ((((0 + 8) + 1) + 10) + own_sz p1.toInt) fm wC h154 n0 Z154 (own_Str.mk f156 f157 f158 f159) (own_Str.mk Ds154.E Ds154.C Ds154.V Ds154.A) ⟨hps.2.2.2.2.1, hNK, by decide⟩ sg127_4 hfm f160 f161 hwC) (by decide) (by decide) (g := (mkF m 161 #[iv p0, iv p1, .val (.long q2), .second, iv p3, iv ch5, iv ch6, iv ch7, rv a95, iv (own_n nb), rv b97, rv b101, rv a127, iv ((own_n ((((0 + 8) + 1) + 10) + own_sz p1.toInt)))] [(.ref a154), (.int (own_n ((((0 + 8) + 1) + 10) + own_sz p1.toInt))), (.ref a127)])) rfl (by rw [hml]; rfl) (argsL := [(.ref a127), (.int (own_n ((((0 + 8) + 1) + 10) + own_sz p1.toInt))), (.ref a154)]) (rest := []) (lenOf pd__Ljava_lang_String_ILjava_lang_String_I rfl) rfl (Y at_161) rfl e154 (by decide : 38 + 0 ≤ _) (by decide : 1755 + 0 ≤ _)
   obtain ⟨rfl, N162q, hh162⟩ := hQ162
   have N162 := Fr.app N153 N162q
   have e162 : T162.heap = h154 := hh162
   obtain ⟨_, T163, Lc163, X163, hQ163, st163⟩ := own_callS (W := 0) (y := mN42) X162 hx hZ hown (oq hw 252 rfl) (oq hw 253 rfl) (oq hw 223 rfl) (oq hw 254 rfl) (by decide) (rmnum l Z av0 hw [] a127 b127 (((((((((0 + 8) + 1) + 10) + own_sz p1.toInt) + 6) + own_sz q2.toInt) + 2) + own_sz (own_n nb).toInt) + 7) gs127 (((((0 + 8) + 1) + 10) + own_sz p1.toInt) + 6) (q2) fm wC h154 n0 Z154 (own_Str.mk f156 f157 f158 f159) ⟨hps.2.2.2.2.2.1, hNK⟩ sg127_5 hfm f160 f161 hwC) (by decide) (by decide) (g := (mkF m 171 #[iv p0, iv p1, .val (.long q2), .second, iv p3, iv ch5, iv ch6, iv ch7, rv a95, iv (own_n nb), rv b97, rv b101, rv a127, iv ((own_n (((((0 + 8) + 1) + 10) + own_sz p1.toInt) + 6)))] [(.long q2), (.int (own_n (((((0 + 8) + 1) + 10) + own_sz p1.toInt) + 6))), (.ref a127)])) rfl (by rw [hml]; rfl) (argsL := [(.ref a127), (.int (own_n (((((0 + 8) + 1) + 10) + own_sz p1.toInt) + 6))), (.long q2)]) (rest := []) (lenOf pd__Ljava_lang_String_IJ_I rfl) rfl (Y at_171) rfl e162 (by decide : 38 + 0 ≤ _) (by decide : 1755 + 0 ≤ _)
   obtain ⟨rfl, N163q, hh163⟩ := hQ163
   have N163 := Fr.app N162 N163q
   have e163 : T163.heap = h154 := hh163
   have S165 : ∀ tz, oS p e below T163 (mkF m 180 #[iv p0, iv p1, .val (.long q2), .second, iv p3, iv ch5, iv ch6, iv ch7, rv a95, iv (own_n nb), rv b97, rv b101, rv a127, iv ((own_n ((((((0 + 8) + 1) + 10) + own_sz p1.toInt) + 6) + own_sz q2.toInt)))] [(.int (own_n ((((((0 + 8) + 1) + 10) + own_sz p1.toInt) + 6) + own_sz q2.toInt))), (.ref a127)]) tz → P0 tz := fun tz kz => S155 tz (by
    refine st154 _ ?_
    refine st162 _ ?_
    refine XS.istore X162.here hx rfl (Y at_164) rfl (l' := #[iv p0, iv p1, .val (.long q2), .second, iv p3, iv ch5, iv ch6, iv ch7, rv a95, iv (own_n nb), rv b97, rv b101, rv a127, iv ((own_n (((((0 + 8) + 1) + 10) + own_sz p1.toInt) + 6)))]) rfl ?_
    refine XS.aload X162.here hx rfl (Y at_166) rfl rfl ?_
    refine XS.iload X162.here hx rfl (Y at_168) rfl ?_
    refine XT.lloadN X162.here hx rfl (Y at_170) rfl ?_
    refine st163 _ ?_
    show oS p e below T163 (mkF m 174 #[iv p0, iv p1, .val (.long q2), .second, iv p3, iv ch5, iv ch6, iv ch7, rv a95, iv (own_n nb), rv b97, rv b101, rv a127, iv ((own_n (((((0 + 8) + 1) + 10) + own_sz p1.toInt) + 6)))] [(.int (own_n ((((((0 + 8) + 1) + 10) + own_sz p1.toInt) + 6) + own_sz q2.toInt)))]) _
    refine XS.istore X163.here hx rfl (Y at_174) rfl (l' := #[iv p0, iv p1, .val (.long q2), .second, iv p3, iv ch5, iv ch6, iv ch7, rv a95, iv (own_n nb), rv b97, rv b101, rv a127, iv ((own_n ((((((0 + 8) + 1) + 10) + own_sz p1.toInt) + 6) + own_sz q2.toInt)))]) rfl ?_
    refine XS.aload X163.here hx rfl (Y at_176) rfl rfl ?_
    refine XS.iload X163.here hx rfl (Y at_178) rfl ?_
    exact kz)
   obtain ⟨a164, T164, h164, ks164, b164, k164, X164, e164, E164, hS164, hk164, hZ, hown, Ea164, Fc164, Fv164, Av164, la164, lb164, R164, Li164, sn164, st164⟩ := ldcCH (s := s) (vm0 := T154.vm) (show Stand p l e _ (s.setVm T154.vm) m _ below meth c _ _ _ _ from X163) hx hZ hown (oq hw 280 rfl) (own_wS hw) e163 hS154 hk154 (own_EW hw) (List.mem_of_getElem? (i := 11) rfl : _ ∈ consts_1) Rr154.1 (vs := own_vl 2 own_t3) (z := own_n 2) own_e3 (own_nge (by decide)) (by rw [own_vlen]; exact own_nc (by decide)) (g := (mkF m 180 #[iv p0, iv p1, .val (.long q2), .second, iv p3, iv ch5, iv ch6, iv ch7, rv a95, iv (own_n nb), rv b97, rv b101, rv a127, iv ((own_n ((((((0 + 8) + 1) + 10) + own_sz p1.toInt) + 6) + own_sz q2.toInt)))] [(.int (own_n ((((((0 + 8) + 1) + 10) + own_sz p1.toInt) + 6) + own_sz q2.toInt))), (.ref a127)])) rfl (Y at_180) (n := 8) (by decide) (by decide) (by decide) (by decide)
   have Rr164 := Rr154.trans R164
   have Z164 : n0 ≤ h164.size := Nat.le_trans Z154 E164.1
   have K164 : Keep h0 h164 [] := K154.ext E164
   have Ds164 : own_Str Z h164 a164 b164 2 own_t3 := own_Str.mk Ea164 Fc164 Fv164 ⟨_, Av164⟩
   have f166 := (f156.ext E164)
   have f167 := (f157.ext E164)
   have f168 := (f158.ext E164)
   have f169 := (f159.ext E164)
   have f170 := (f160.ext E164)
   have f171 := (f161.ext E164)
   obtain ⟨_, T172, Lc172, X172, hQ172, st172⟩ := own_callS (W := 0) (y := mN39) X164 hx hZ hown (oq hw 221 rfl) (oq hw 222 rfl) (oq hw 223 rfl) (oq hw 224 rfl) (by decide) (rmlit l Z av0 hw [] a127 b127 (((((((((0 + 8) + 1) + 10) + own_sz p1.toInt) + 6) + own_sz q2.toInt) + 2) + own_sz (own_n nb).toInt) + 7) gs127 a164 b164 2 own_t3 ((((((0 + 8) + 1) + 10) + own_sz p1.toInt) + 6) + own_sz q2.toInt) fm wC h164 n0 Z164 (own_Str.mk f166 f167 f168 f169) (own_Str.mk Ds164.E Ds164.C Ds164.V Ds164.A) ⟨hps.2.2.2.2.2.2.1, hNK, by decide⟩ sg127_6 hfm f170 f171 hwC) (by decide) (by decide) (g := (mkF m 182 #[iv p0, iv p1, .val (.long q2), .second, iv p3, iv ch5, iv ch6, iv ch7, rv a95, iv (own_n nb), rv b97, rv b101, rv a127, iv ((own_n ((((((0 + 8) + 1) + 10) + own_sz p1.toInt) + 6) + own_sz q2.toInt)))] [(.ref a164), (.int (own_n ((((((0 + 8) + 1) + 10) + own_sz p1.toInt) + 6) + own_sz q2.toInt))), (.ref a127)])) rfl (by rw [hml]; rfl) (argsL := [(.ref a127), (.int (own_n ((((((0 + 8) + 1) + 10) + own_sz p1.toInt) + 6) + own_sz q2.toInt))), (.ref a164)]) (rest := []) (lenOf pd__Ljava_lang_String_ILjava_lang_String_I rfl) rfl (Y at_182) rfl e164 (by decide : 40 + 0 ≤ _) (by decide : 1767 + 0 ≤ _)
   obtain ⟨rfl, N172q, hh172⟩ := hQ172
   have N172 := Fr.app N163 N172q
   have e172 : T172.heap = h164 := hh172
   obtain ⟨_, T173, Lc173, X173, hQ173, st173⟩ := own_callS (W := 0) (y := mN42) X172 hx hZ hown (oq hw 252 rfl) (oq hw 253 rfl) (oq hw 223 rfl) (oq hw 254 rfl) (by decide) (rmnum l Z av0 hw [] a127 b127 (((((((((0 + 8) + 1) + 10) + own_sz p1.toInt) + 6) + own_sz q2.toInt) + 2) + own_sz (own_n nb).toInt) + 7) gs127 (((((((0 + 8) + 1) + 10) + own_sz p1.toInt) + 6) + own_sz q2.toInt) + 2) (((own_n nb)).toInt64) fm wC h164 n0 Z164 (own_Str.mk f166 f167 f168 f169) (by rw [own_i2l]; exact ⟨hps.2.2.2.2.2.2.2.1, hNK⟩) (by rw [own_i2l]; exact sg127_7) hfm f170 f171 hwC) (by decide) (by decide) (g := (mkF m 194 #[iv p0, iv p1, .val (.long q2), .second, iv p3, iv ch5, iv ch6, iv ch7, rv a95, iv (own_n nb), rv b97, rv b101, rv a127, iv ((own_n (((((((0 + 8) + 1) + 10) + own_sz p1.toInt) + 6) + own_sz q2.toInt) + 2)))] [(.long ((own_n nb)).toInt64), (.int (own_n (((((((0 + 8) + 1) + 10) + own_sz p1.toInt) + 6) + own_sz q2.toInt) + 2))), (.ref a127)])) rfl (by rw [hml]; rfl) (argsL := [(.ref a127), (.int (own_n (((((((0 + 8) + 1) + 10) + own_sz p1.toInt) + 6) + own_sz q2.toInt) + 2))), (.long ((own_n nb)).toInt64)]) (rest := []) (lenOf pd__Ljava_lang_String_IJ_I rfl) rfl (Y at_194) rfl e172 (by decide : 40 + 0 ≤ _) (by decide : 1767 + 0 ≤ _)
   obtain ⟨rfl, N173q, hh173⟩ := hQ173
   have N173 := Fr.app N172 N173q
   have e173 : T173.heap = h164 := hh173
   have S175 : ∀ tz, oS p e below T173 (mkF m 203 #[iv p0, iv p1, .val (.long q2), .second, iv p3, iv ch5, iv ch6, iv ch7, rv a95, iv (own_n nb), rv b97, rv b101, rv a127, iv ((own_n ((((((((0 + 8) + 1) + 10) + own_sz p1.toInt) + 6) + own_sz q2.toInt) + 2) + own_sz (own_n nb).toInt)))] [(.int (own_n ((((((((0 + 8) + 1) + 10) + own_sz p1.toInt) + 6) + own_sz q2.toInt) + 2) + own_sz (own_n nb).toInt))), (.ref a127)]) tz → P0 tz := fun tz kz => S165 tz (by
    refine st164 _ ?_
    refine st172 _ ?_
    refine XS.istore X172.here hx rfl (Y at_185) rfl (l' := #[iv p0, iv p1, .val (.long q2), .second, iv p3, iv ch5, iv ch6, iv ch7, rv a95, iv (own_n nb), rv b97, rv b101, rv a127, iv ((own_n (((((((0 + 8) + 1) + 10) + own_sz p1.toInt) + 6) + own_sz q2.toInt) + 2)))]) rfl ?_
    refine XS.aload X172.here hx rfl (Y at_187) rfl rfl ?_
    refine XS.iload X172.here hx rfl (Y at_189) rfl ?_
    refine XS.iload X172.here hx rfl (Y at_191) rfl ?_
    refine XT.i2l X172.here hx rfl (Y at_193) rfl ?_
    show oS p e below T172 (mkF m 194 #[iv p0, iv p1, .val (.long q2), .second, iv p3, iv ch5, iv ch6, iv ch7, rv a95, iv (own_n nb), rv b97, rv b101, rv a127, iv ((own_n (((((((0 + 8) + 1) + 10) + own_sz p1.toInt) + 6) + own_sz q2.toInt) + 2)))] [(.long ((own_n nb)).toInt64), (.int (own_n (((((((0 + 8) + 1) + 10) + own_sz p1.toInt) + 6) + own_sz q2.toInt) + 2))), (.ref a127)]) _
    refine st173 _ ?_
    show oS p e below T173 (mkF m 197 #[iv p0, iv p1, .val (.long q2), .second, iv p3, iv ch5, iv ch6, iv ch7, rv a95, iv (own_n nb), rv b97, rv b101, rv a127, iv ((own_n (((((((0 + 8) + 1) + 10) + own_sz p1.toInt) + 6) + own_sz q2.toInt) + 2)))] [(.int (own_n ((((((((0 + 8) + 1) + 10) + own_sz p1.toInt) + 6) + own_sz q2.toInt) + 2) + own_sz (((own_n nb)).toInt64).toInt)))]) _
    rw [own_i2l]
    show oS p e below T173 (mkF m 197 #[iv p0, iv p1, .val (.long q2), .second, iv p3, iv ch5, iv ch6, iv ch7, rv a95, iv (own_n nb), rv b97, rv b101, rv a127, iv ((own_n (((((((0 + 8) + 1) + 10) + own_sz p1.toInt) + 6) + own_sz q2.toInt) + 2)))] [(.int (own_n ((((((((0 + 8) + 1) + 10) + own_sz p1.toInt) + 6) + own_sz q2.toInt) + 2) + own_sz (own_n nb).toInt)))]) _
    refine XS.istore X173.here hx rfl (Y at_197) rfl (l' := #[iv p0, iv p1, .val (.long q2), .second, iv p3, iv ch5, iv ch6, iv ch7, rv a95, iv (own_n nb), rv b97, rv b101, rv a127, iv ((own_n ((((((((0 + 8) + 1) + 10) + own_sz p1.toInt) + 6) + own_sz q2.toInt) + 2) + own_sz (own_n nb).toInt)))]) rfl ?_
    refine XS.aload X173.here hx rfl (Y at_199) rfl rfl ?_
    refine XS.iload X173.here hx rfl (Y at_201) rfl ?_
    exact kz)
   obtain ⟨a174, T174, h174, ks174, b174, k174, X174, e174, E174, hS174, hk174, hZ, hown, Ea174, Fc174, Fv174, Av174, la174, lb174, R174, Li174, sn174, st174⟩ := ldcCH (s := s) (vm0 := T164.vm) (show Stand p l e _ (s.setVm T164.vm) m _ below meth c _ _ _ _ from X173) hx hZ hown (oq hw 281 rfl) (own_wS hw) e173 hS164 hk164 (own_EW hw) (List.mem_of_getElem? (i := 12) rfl : _ ∈ consts_1) Rr164.1 (vs := own_vl 7 own_t4) (z := own_n 7) own_e4 (own_nge (by decide)) (by rw [own_vlen]; exact own_nc (by decide)) (g := (mkF m 203 #[iv p0, iv p1, .val (.long q2), .second, iv p3, iv ch5, iv ch6, iv ch7, rv a95, iv (own_n nb), rv b97, rv b101, rv a127, iv ((own_n ((((((((0 + 8) + 1) + 10) + own_sz p1.toInt) + 6) + own_sz q2.toInt) + 2) + own_sz (own_n nb).toInt)))] [(.int (own_n ((((((((0 + 8) + 1) + 10) + own_sz p1.toInt) + 6) + own_sz q2.toInt) + 2) + own_sz (own_n nb).toInt))), (.ref a127)])) rfl (Y at_203) (n := 28) (by decide) (by decide) (by decide) (by decide)
   have Rr174 := Rr164.trans R174
   have Z174 : n0 ≤ h174.size := Nat.le_trans Z164 E174.1
   have K174 : Keep h0 h174 [] := K164.ext E174
   have Ds174 : own_Str Z h174 a174 b174 7 own_t4 := own_Str.mk Ea174 Fc174 Fv174 ⟨_, Av174⟩
   have f176 := (f166.ext E174)
   have f177 := (f167.ext E174)
   have f178 := (f168.ext E174)
   have f179 := (f169.ext E174)
   have f180 := (f170.ext E174)
   have f181 := (f171.ext E174)
   obtain ⟨_, T182, Lc182, X182, hQ182, st182⟩ := own_callS (W := 0) (y := mN39) X174 hx hZ hown (oq hw 221 rfl) (oq hw 222 rfl) (oq hw 223 rfl) (oq hw 224 rfl) (by decide) (rmlit l Z av0 hw [] a127 b127 (((((((((0 + 8) + 1) + 10) + own_sz p1.toInt) + 6) + own_sz q2.toInt) + 2) + own_sz (own_n nb).toInt) + 7) gs127 a174 b174 7 own_t4 ((((((((0 + 8) + 1) + 10) + own_sz p1.toInt) + 6) + own_sz q2.toInt) + 2) + own_sz (own_n nb).toInt) fm wC h174 n0 Z174 (own_Str.mk f176 f177 f178 f179) (own_Str.mk Ds174.E Ds174.C Ds174.V Ds174.A) ⟨hps.2.2.2.2.2.2.2.2, hNK, by decide⟩ sg127_8 hfm f180 f181 hwC) (by decide) (by decide) (g := (mkF m 205 #[iv p0, iv p1, .val (.long q2), .second, iv p3, iv ch5, iv ch6, iv ch7, rv a95, iv (own_n nb), rv b97, rv b101, rv a127, iv ((own_n ((((((((0 + 8) + 1) + 10) + own_sz p1.toInt) + 6) + own_sz q2.toInt) + 2) + own_sz (own_n nb).toInt)))] [(.ref a174), (.int (own_n ((((((((0 + 8) + 1) + 10) + own_sz p1.toInt) + 6) + own_sz q2.toInt) + 2) + own_sz (own_n nb).toInt))), (.ref a127)])) rfl (by rw [hml]; rfl) (argsL := [(.ref a127), (.int (own_n ((((((((0 + 8) + 1) + 10) + own_sz p1.toInt) + 6) + own_sz q2.toInt) + 2) + own_sz (own_n nb).toInt))), (.ref a174)]) (rest := []) (lenOf pd__Ljava_lang_String_ILjava_lang_String_I rfl) rfl (Y at_205) rfl e174 (by decide : 42 + 0 ≤ _) (by decide : 1799 + 0 ≤ _)
   obtain ⟨rfl, N182q, hh182⟩ := hQ182
   have N182 := Fr.app N173 N182q
   have e182 : T182.heap = h174 := hh182
   obtain ⟨_, T183, Lc183, X183, hQ183, st183⟩ := own_virtual (W := 1) (y := mN1) (z := mN1) X182 hx hZ hown (oq hw 228 rfl) (oq hw 77 rfl) (notFace_of_selects (args := #[]) (mvT hZ (oq hw 79 rfl))) (oq hw 79 rfl) (oq hw 78 rfl) (oq hw 80 rfl) (oq hw 1 rfl) (by decide) (rmLen l Z av0 hw [] a127 b127 (((((((((0 + 8) + 1) + 10) + own_sz p1.toInt) + 6) + own_sz q2.toInt) + 2) + own_sz (own_n nb).toInt) + 7) gs127 wC h174 n0 Z174 (own_Str.mk f176 f177 f178 f179) hNK f181 hwC) (by decide) (by decide) f176 (g := (mkF m 214 #[iv p0, iv p1, .val (.long q2), .second, iv p3, iv ch5, iv ch6, iv ch7, rv a95, iv (own_n nb), rv b97, rv b101, rv a127, iv ((own_n (((((((((0 + 8) + 1) + 10) + own_sz p1.toInt) + 6) + own_sz q2.toInt) + 2) + own_sz (own_n nb).toInt) + 7)))] [(.ref a127), (.int (own_n (((((((((0 + 8) + 1) + 10) + own_sz p1.toInt) + 6) + own_sz q2.toInt) + 2) + own_sz (own_n nb).toInt) + 7)))])) rfl (by rw [hml]; rfl) (argsL := []) (rest := [(.int (own_n (((((((((0 + 8) + 1) + 10) + own_sz p1.toInt) + 6) + own_sz q2.toInt) + 2) + own_sz (own_n nb).toInt) + 7)))]) (lenOf pd__I rfl) rfl (Y at_214) rfl e182 (by decide : 42 + 0 ≤ _) (by decide : 1799 + 0 ≤ _)
   obtain ⟨rfl, N183q, hh183⟩ := hQ183
   have N183 := Fr.app N182 N183q
   have e183 : T183.heap = h174 := hh183
   have S184 : ∀ tz, oS p e below T183 (mkF m 225 #[iv p0, iv p1, .val (.long q2), .second, iv p3, iv ch5, iv ch6, iv ch7, rv a95, iv (own_n nb), rv b97, rv b101, rv a127, iv ((own_n (((((((((0 + 8) + 1) + 10) + own_sz p1.toInt) + 6) + own_sz q2.toInt) + 2) + own_sz (own_n nb).toInt) + 7)))] [(.int 1)]) tz → P0 tz := fun tz kz => S175 tz (by
    refine st174 _ ?_
    refine st182 _ ?_
    refine XS.istore X182.here hx rfl (Y at_208) rfl (l' := #[iv p0, iv p1, .val (.long q2), .second, iv p3, iv ch5, iv ch6, iv ch7, rv a95, iv (own_n nb), rv b97, rv b101, rv a127, iv ((own_n (((((((((0 + 8) + 1) + 10) + own_sz p1.toInt) + 6) + own_sz q2.toInt) + 2) + own_sz (own_n nb).toInt) + 7)))]) rfl ?_
    refine XS.iload X182.here hx rfl (Y at_210) rfl ?_
    refine XS.aload X182.here hx rfl (Y at_212) rfl rfl ?_
    show oS p e below T182 (mkF m 214 #[iv p0, iv p1, .val (.long q2), .second, iv p3, iv ch5, iv ch6, iv ch7, rv a95, iv (own_n nb), rv b97, rv b101, rv a127, iv ((own_n (((((((((0 + 8) + 1) + 10) + own_sz p1.toInt) + 6) + own_sz q2.toInt) + 2) + own_sz (own_n nb).toInt) + 7)))] [(.ref a127), (.int (own_n (((((((((0 + 8) + 1) + 10) + own_sz p1.toInt) + 6) + own_sz q2.toInt) + 2) + own_sz (own_n nb).toInt) + 7)))]) _
    refine st183 _ ?_
    refine XS.icmpNo X183.here hx rfl (Y at_217) rfl (XT.ii_ne_f rfl) ?_
    refine XT.iconstV X183.here hx rfl (1 : Int32) (Y at_220) (by decide) ?_
    refine XS.goto X183.here hx rfl (pc0 := 221) (pc' := 225) rfl (Y at_221) (by decide) (by decide) ?_
    exact kz)
   obtain ⟨fs, hr, hrun, hended, hEnd⟩ := X183.leaveW hS174 (by rw [e183]; exact hk174) (v := some (.int 1)) (fun h => by rw [Bd.returns] at h; cases h)
   refine ⟨_, _, pre0 _ (S184 _ ?_), hrun, hended, _, _, rfl, ?_, (by show CHr Z consts_1 s.vm s.heap T183.vm T183.heap; rw [hh, e183]; exact Rr174.trans (CHv.at (s := s) (vm0 := T174.vm) (show Stand p l e _ (s.setVm T174.vm) m _ below meth c _ _ _ _ from X183) hZ (own_EW hw) Rr174.1)), hEnd.1, hEnd.2.1, hEnd.2.2.1, hEnd.2.2.2.mono (by decide) (by decide)⟩
   · exact retN X183 hx (t := .boolean) Bd.returns (by simp) (Y at_225) hr
   · show Qrm0 Z p0 p1 q2 p3 wC fm dO dX h0 n0 _ T183.heap _
     rw [e183]
     exact ⟨rfl, N183⟩
  ·obtain ⟨T185, h185, X185, e185, E185, A185, D185, -, st185⟩ := newO X0 hx hZ hown (oq hw 285 rfl) (oq hw 2 rfl) (oq hw 1 rfl) e0 (g := (mkF m 55 #[iv p0, iv p1, .val (.long q2), .second, iv p3, iv ch5, iv ch6, iv ch7, .unset, .unset, .unset, .unset, .unset, .unset] [])) rfl (Y at_55) (by decide) (by decide)
   obtain ⟨b185, g185⟩ : ∃ z, z = h0.size := ⟨_, rfl⟩
   rw [← g185] at A185 D185 st185
   have ne_dO_b185 : dO ≠ b185 := Nat.ne_of_lt (Nat.lt_of_lt_of_le hAO.lt (Nat.le_of_eq g185.symm))
   have ne_dX_b185 : dX ≠ b185 := Nat.ne_of_lt (Nat.lt_of_lt_of_le hAX.lt (Nat.le_of_eq g185.symm))
   have ge_b185 : n0 ≤ b185 := Nat.le_trans Z0 (Nat.le_of_eq g185.symm)
   have sz_b185 : h0.size ≤ b185 := Nat.le_of_eq g185.symm
   have sf185_b185 : Safe Z consts_1 s.vm _ b185 := Safe.new (Nat.le_of_eq g185.symm)
   have sf186_b185 := Safe.ext E185 (CHr.refl hI).1 sf185_b185
   have Rr186 := (CHr.refl hI).trans (CHr.ext E185 (CHr.refl hI).1)
   have Z185 : n0 ≤ h185.size := Nat.le_trans Z0 E185.1
   have K185 : Keep h0 h185 [] := (Keep.refl h0 []).ext E185
   have F185_value : Fld Z h185 b185 "java/lang/String" "value" "[B" .null := D185 (Or.inr (oq hw 4 rfl)) (ty := (.array .byte)) (by decide)
   have F185_coder : Fld Z h185 b185 "java/lang/String" "coder" "B" (.int 0) := D185 (Or.inr (oq hw 5 rfl)) (ty := .byte) (by decide)
   obtain ⟨T187, h187, k187, X187, e187, E187, A187, st187⟩ := newP X185 hx hZ (oq hw 286 rfl) e185 (g := (mkF m 60 #[iv p0, iv p1, .val (.long q2), .second, iv p3, iv ch5, iv ch6, iv ch7, .unset, .unset, .unset, .unset, .unset, .unset] [(.int 2), (.ref b185), (.ref b185)])) rfl (Y at_60) rfl (by decide) (cap := 2) (by decide) (by decide) (by decide) (by decide)
   obtain ⟨b187, g187⟩ : ∃ z, z = h185.size := ⟨_, rfl⟩
   rw [← g187] at A187 st187
   have ne_b185_b187 : b185 ≠ b187 := Nat.ne_of_lt (Nat.lt_of_lt_of_le A185.lt (Nat.le_of_eq g187.symm))
   have f188 := (hAO.ext E185)
   have ne_dO_b187 : dO ≠ b187 := Nat.ne_of_lt (Nat.lt_of_lt_of_le f188.lt (Nat.le_of_eq g187.symm))
   have f189 := (hAX.ext E185)
   have ne_dX_b187 : dX ≠ b187 := Nat.ne_of_lt (Nat.lt_of_lt_of_le f189.lt (Nat.le_of_eq g187.symm))
   have ge_b187 : n0 ≤ b187 := Nat.le_trans Z185 (Nat.le_of_eq g187.symm)
   have sz_b187 : h0.size ≤ b187 := Nat.le_trans K185.1 (Nat.le_of_eq g187.symm)
   have sf187_b187 : Safe Z consts_1 s.vm _ b187 := Safe.new (Nat.le_of_eq g187.symm)
   have sf190_b185 := Safe.ext E187 Rr186.1 sf186_b185
   have sf190_b187 := Safe.ext E187 Rr186.1 sf187_b187
   have Rr190 := Rr186.trans (CHr.ext E187 Rr186.1)
   have Z187 : n0 ≤ h187.size := Nat.le_trans Z185 E187.1
   have K187 : Keep h0 h187 [] := K185.ext E187
   have V187 : Arv Z h187 b187 k187 .char (2 : Int32) [(.int (0 : Int32)), (.int (0 : Int32))] (.int (0 : Int32)) := (Arv.new A187 (by decide)).pad (pad_rep [] (.int (0 : Int32)) 2)
   obtain ⟨cl191, Ar191, qk191, Sz191, Ng191, Hs191, Gs191⟩ := id V187
   have hin191 : ¬ ((0 : Int32) < 0 ∨ cl191.slots.size ≤ ((0 : Int32)).toNatClampNeg) := inb_of Sz191 ⟨by decide, by decide⟩
   obtain ⟨T192, h192, X192, e192, W192, st192⟩ := stC X187 hx hZ e187 Ar191 (j := (0 : Int32)) hin191 (g := (mkF m 66 #[iv p0, iv p1, .val (.long q2), .second, iv p3, iv ch5, iv ch6, iv ch7, .unset, .unset, .unset, .unset, .unset, .unset] [(.int ch5), (.int 0), (.ref b187), (.ref b187), (.ref b185), (.ref b185)])) rfl rfl (Y at_66)
   have sf193_b185 := Safe.wr W192 sf190_b187 Rr190.1 sf190_b185
   have sf193_b187 := Safe.wr W192 sf190_b187 Rr190.1 sf190_b187
   have Rr193 := Rr190.trans (CHr.wr W192 sf190_b187 Rr190.1)
   have N192 := Fr.snoc X192 N0 ge_b187
   have Z192 : n0 ≤ h192.size := Nat.le_trans Z187 (Nat.le_of_eq W192.size.symm)
   have K192 : Keep h0 h192 [] := K187.wr W192 (Or.inr sz_b187)
   have V192 : Arv Z h192 b187 k187 .char (2 : Int32) [(.int (nar .char ch5)), (.int (0 : Int32))] (.int (0 : Int32)) := Arv.set Ar191 qk191 Sz191 Ng191 Hs191 Gs191 (fits_nar_char _) W192 0 rfl (Nat.le_of_ble_eq_true rfl)
   obtain ⟨cl194, Ar194, qk194, Sz194, Ng194, Hs194, Gs194⟩ := id V192
   have hin194 : ¬ ((1 : Int32) < 0 ∨ cl194.slots.size ≤ ((1 : Int32)).toNatClampNeg) := inb_of Sz194 ⟨by decide, by decide⟩
   obtain ⟨T195, h195, X195, e195, W195, st195⟩ := stC X192 hx hZ e192 Ar194 (j := (1 : Int32)) hin194 (g := (mkF m 71 #[iv p0, iv p1, .val (.long q2), .second, iv p3, iv ch5, iv ch6, iv ch7, .unset, .unset, .unset, .unset, .unset, .unset] [(.int ch6), (.int 1), (.ref b187), (.ref b187), (.ref b185), (.ref b185)])) rfl rfl (Y at_71)
   have sf196_b185 := Safe.wr W195 sf193_b187 Rr193.1 sf193_b185
   have sf196_b187 := Safe.wr W195 sf193_b187 Rr193.1 sf193_b187
   have Rr196 := Rr193.trans (CHr.wr W195 sf193_b187 Rr193.1)
   have N195 := Fr.snoc X195 N192 ge_b187
   have Z195 : n0 ≤ h195.size := Nat.le_trans Z192 (Nat.le_of_eq W195.size.symm)
   have K195 : Keep h0 h195 [] := K192.wr W195 (Or.inr sz_b187)
   have V195 : Arv Z h195 b187 k187 .char (2 : Int32) [(.int (nar .char ch5)), (.int (nar .char ch6))] (.int (0 : Int32)) := Arv.set Ar194 qk194 Sz194 Ng194 Hs194 Gs194 (fits_nar_char _) W195 1 rfl (Nat.le_of_ble_eq_true rfl)
   have f197 := (((A185.ext E187).wr W192).wr W195)
   have f198 := (((F185_value.ext E187).other W192 (Or.inl ne_b185_b187)).other W195 (Or.inl ne_b185_b187))
   have f199 := (((F185_coder.ext E187).other W192 (Or.inl ne_b185_b187)).other W195 (Or.inl ne_b185_b187))
   have f200 := ((((hSC.ext E185).ext E187).wr W192).wr W195)
   obtain ⟨_, T201, Lc201, X201, hQ201, st201⟩ := own_special (W := 1) (y := mN51) X195 hx hZ rfl hown (oq hw 287 rfl) (oq hw 288 rfl) (oq hw 289 rfl) (oq hw 1 rfl) (by decide) (rmSi2_2 l Z av0 hw [] b185 b187 k187 wC (nar .char ch5) (nar .char ch6) h195 n0 Z195 f197 f198 f199 ge_b185 V195 f200 hwC hcn5 hcn6) (by decide) (by decide) (g := (mkF m 72 #[iv p0, iv p1, .val (.long q2), .second, iv p3, iv ch5, iv ch6, iv ch7, .unset, .unset, .unset, .unset, .unset, .unset] [(.ref b187), (.ref b185), (.ref b185)])) rfl (by rw [hml]; rfl) (a := b185) (argsL := [(.ref b187)]) (rest := [(.ref b185)]) (lenOf pd__A_C_V rfl) rfl (Y at_72) rfl e195 (by decide : 2 + 1 ≤ _) (by decide : 6 + 2 ≤ _)
   obtain ⟨rfl, N201q, K201, FC201, b201, kb201, FV201, V201, gb201⟩ := hQ201
   have N201 := Fr.app N195 N201q
   have e201 : T201.heap = T201.heap := rfl
   have ne_b185_b201 : b185 ≠ b201 := Nat.ne_of_lt (Nat.lt_of_lt_of_le f197.lt gb201)
   have ne_b187_b201 : b187 ≠ b201 := Nat.ne_of_lt (Nat.lt_of_lt_of_le V195.lt gb201)
   have f202 := (((f188.ext E187).other W192 ne_dO_b187).other W195 ne_dO_b187)
   have ne_dO_b201 : dO ≠ b201 := Nat.ne_of_lt (Nat.lt_of_lt_of_le f202.lt gb201)
   have f203 := (((f189.ext E187).other W192 ne_dX_b187).other W195 ne_dX_b187)
   have ne_dX_b201 : dX ≠ b201 := Nat.ne_of_lt (Nat.lt_of_lt_of_le f203.lt gb201)
   have ge_b201 : n0 ≤ b201 := Nat.le_trans Z195 gb201
   have sz_b201 : h0.size ≤ b201 := Nat.le_trans K195.1 gb201
   have sf204_b185 := Safe.keep K201 (allS sf196_b185 all0) Rr196.1 sf196_b185
   have sf204_b187 := Safe.keep K201 (allS sf196_b185 all0) Rr196.1 sf196_b187
   have Rr204 := Rr196.trans (CHr.keep K201 (allS sf196_b185 all0) Rr196.1)
   have Zk201 : n0 ≤ T201.heap.size := Nat.le_trans Z195 K201.1
   have Kk201 : Keep h0 T201.heap [] := K195.trans K201 (allS (Or.inr sz_b185) all0)
   have Vb201 : own_Ab Z T201.heap b201 2 (own_li [(nar .byte ((nar .char ch5)).toInt8.toInt32), (nar .byte ((nar .char ch6)).toInt8.toInt32)]) := ⟨_, V201⟩
   obtain ⟨gv201, hgv201⟩ : ∃ z, z = own_li [(nar .byte ((nar .char ch5)).toInt8.toInt32), (nar .byte ((nar .char ch6)).toInt8.toInt32)] := ⟨_, rfl⟩
   rw [← hgv201] at Vb201
   obtain ⟨nb, hnb, hnb15⟩ := own_n15 p3
   obtain ⟨T205, h205, k205, X205, e205, E205, A205, Ex205, st205⟩ := own_newX X201 hx hZ (oq hw 3 rfl) e201 (g := (mkF m 86 #[iv p0, iv p1, .val (.long q2), .second, iv p3, iv ch5, iv ch6, iv ch7, rv b185, iv (own_n nb), .unset, .unset, .unset, .unset] [(.int (own_n nb))])) rfl (Y at_86) rfl (own_nge (Nat.lt_of_le_of_lt hnb15 (by decide))) (cap := 15) (by rw [own_nc (Nat.lt_of_le_of_lt hnb15 (by decide))]; exact hnb15) (by decide) (by decide) (by decide)
   obtain ⟨b205, g205⟩ : ∃ z, z = T201.heap.size := ⟨_, rfl⟩
   rw [← g205] at A205 st205
   have f206 := (f197.keep K201)
   have ne_b185_b205 : b185 ≠ b205 := Nat.ne_of_lt (Nat.lt_of_lt_of_le f206.lt (Nat.le_of_eq g205.symm))
   have ne_b201_b205 : b201 ≠ b205 := Nat.ne_of_lt (Nat.lt_of_lt_of_le Vb201.lt (Nat.le_of_eq g205.symm))
   have f207 := (f202.keep K201 (ninS ne_dO_b185 nin0))
   have ne_dO_b205 : dO ≠ b205 := Nat.ne_of_lt (Nat.lt_of_lt_of_le f207.lt (Nat.le_of_eq g205.symm))
   have f208 := (f203.keep K201 (ninS ne_dX_b185 nin0))
   have ne_dX_b205 : dX ≠ b205 := Nat.ne_of_lt (Nat.lt_of_lt_of_le f208.lt (Nat.le_of_eq g205.symm))
   have ge_b205 : n0 ≤ b205 := Nat.le_trans Zk201 (Nat.le_of_eq g205.symm)
   have sz_b205 : h0.size ≤ b205 := Nat.le_trans Kk201.1 (Nat.le_of_eq g205.symm)
   have sf205_b205 : Safe Z consts_1 s.vm _ b205 := Safe.new (Nat.le_of_eq g205.symm)
   have sf209_b185 := Safe.ext E205 Rr204.1 sf204_b185
   have sf209_b205 := Safe.ext E205 Rr204.1 sf205_b205
   have Rr209 := Rr204.trans (CHr.ext E205 Rr204.1)
   have Z205 : n0 ≤ h205.size := Nat.le_trans Zk201 E205.1
   have K205 : Keep h0 h205 [] := Kk201.ext E205
   have V205 : own_Ab Z h205 b205 nb (fun _ => 0) := own_newB nb (by omega) A205
   rw [← g205] at Ex205
   obtain ⟨T210, h210, X210, e210, E210, A210, D210, -, st210⟩ := newO X205 hx hZ hown (oq hw 8 rfl) (oq hw 9 rfl) (oq hw 10 rfl) e205 (g := (mkF m 90 #[iv p0, iv p1, .val (.long q2), .second, iv p3, iv ch5, iv ch6, iv ch7, rv b185, iv (own_n nb), rv b205, .unset, .unset, .unset] [])) rfl (Y at_90) (by decide) (by decide)
   obtain ⟨b210, g210⟩ : ∃ z, z = h205.size := ⟨_, rfl⟩
   rw [← g210] at A210 D210 st210
   have f211 := (f206.ext E205)
   have ne_b185_b210 : b185 ≠ b210 := Nat.ne_of_lt (Nat.lt_of_lt_of_le f211.lt (Nat.le_of_eq g210.symm))
   have f212 := (Vb201.ext E205)
   have ne_b201_b210 : b201 ≠ b210 := Nat.ne_of_lt (Nat.lt_of_lt_of_le f212.lt (Nat.le_of_eq g210.symm))
   have ne_b205_b210 : b205 ≠ b210 := Nat.ne_of_lt (Nat.lt_of_lt_of_le Ex205.lt (Nat.le_of_eq g210.symm))
   have f213 := (f207.ext E205)
   have ne_dO_b210 : dO ≠ b210 := Nat.ne_of_lt (Nat.lt_of_lt_of_le f213.lt (Nat.le_of_eq g210.symm))
   have f214 := (f208.ext E205)
   have ne_dX_b210 : dX ≠ b210 := Nat.ne_of_lt (Nat.lt_of_lt_of_le f214.lt (Nat.le_of_eq g210.symm))
   have ge_b210 : n0 ≤ b210 := Nat.le_trans Z205 (Nat.le_of_eq g210.symm)
   have sz_b210 : h0.size ≤ b210 := Nat.le_trans K205.1 (Nat.le_of_eq g210.symm)
   have sf210_b210 : Safe Z consts_1 s.vm _ b210 := Safe.new (Nat.le_of_eq g210.symm)
   have sf215_b185 := Safe.ext E210 Rr209.1 sf209_b185
   have sf215_b205 := Safe.ext E210 Rr209.1 sf209_b205
   have sf215_b210 := Safe.ext E210 Rr209.1 sf210_b210
   have Rr215 := Rr209.trans (CHr.ext E210 Rr209.1)
   have Z210 : n0 ≤ h210.size := Nat.le_trans Z205 E210.1
   have K210 : Keep h0 h210 [] := K205.ext E210
   have F210_mId : Fld Z h210 b210 "com/example/campofelice/campofelice/Message" "mId" "Ljava/lang/String;" .null := D210 (Or.inr (oq hw 25 rfl)) (ty := (.object "java/lang/String")) (by decide)
   have F210_mBody : Fld Z h210 b210 "com/example/campofelice/campofelice/Message" "mBody" "[B" .null := D210 (Or.inr (oq hw 37 rfl)) (ty := (.array .byte)) (by decide)
   have F210_mAttempt : Fld Z h210 b210 "com/example/campofelice/campofelice/Message" "mAttempt" "I" (.int 0) := D210 (Or.inr (oq hw 39 rfl)) (ty := .int) (by decide)
   have F210_mDueTime : Fld Z h210 b210 "com/example/campofelice/campofelice/Message" "mDueTime" "J" (.long 0) := D210 (Or.inr (oq hw 41 rfl)) (ty := .long) (by decide)
   have f216 := (f211.ext E210)
   have f217 := ((FC201.ext E205).ext E210)
   have f218 := ((FV201.ext E205).ext E210)
   have f219 := (f212.ext E210)
   have f220 := (V205.ext E210)
   have f221 := (Ex205.ext E210)
   have S223 : ∀ tz, oS p e below T210 (mkF m 100 #[iv p0, iv p1, .val (.long q2), .second, iv p3, iv ch5, iv ch6, iv ch7, rv b185, iv (own_n nb), rv b205, .unset, .unset, .unset] [(.long q2), (.int p1), (.ref b205), (.ref b185), (.ref b210), (.ref b210)]) tz → P0 tz := fun tz kz => S93 tz (by
    refine XS.icmpYes X0.here hx rfl (pc0 := 42) (pc' := 55) rfl (Y at_42) rfl (XT.ii_ne_t hc42_94) (by decide) (by decide) ?_
    refine st185 _ ?_
    refine XS.dup X185.here hx rfl (Y at_58) rfl rfl ?_
    refine XT.iconstV X185.here hx rfl (2 : Int32) (Y at_59) (by decide) ?_
    refine st187 _ ?_
    show oS p e below T187 (mkF m 62 #[iv p0, iv p1, .val (.long q2), .second, iv p3, iv ch5, iv ch6, iv ch7, .unset, .unset, .unset, .unset, .unset, .unset] [(.ref b187), (.ref b185), (.ref b185)]) _
    refine XS.dup X187.here hx rfl (Y at_62) rfl rfl ?_
    refine XT.iconstV X187.here hx rfl (0 : Int32) (Y at_63) (by decide) ?_
    refine XS.iload X187.here hx rfl (Y at_64) rfl ?_
    refine st192 _ ?_
    refine XS.dup X192.here hx rfl (Y at_67) rfl rfl ?_
    refine XT.iconstV X192.here hx rfl (1 : Int32) (Y at_68) (by decide) ?_
    refine XS.iload X192.here hx rfl (Y at_69) rfl ?_
    refine st195 _ ?_
    refine st201 _ ?_
    refine XS.astore X201.here hx rfl (Y at_75) rfl rfl (l' := #[iv p0, iv p1, .val (.long q2), .second, iv p3, iv ch5, iv ch6, iv ch7, rv b185, .unset, .unset, .unset, .unset, .unset]) rfl ?_
    show oS p e below T201 (mkF m 77 #[iv p0, iv p1, .val (.long q2), .second, iv p3, iv ch5, iv ch6, iv ch7, rv b185, .unset, .unset, .unset, .unset, .unset] []) _
    refine XS.iload X201.here hx rfl (Y at_77) rfl ?_
    refine XT.bipushV X201.here hx rfl (15 : Int32) (Y at_79) (by decide) ?_
    refine XS.iand X201.here hx rfl (Y at_81) rfl ?_
    refine XS.istore X201.here hx rfl (Y at_82) rfl (l' := #[iv p0, iv p1, .val (.long q2), .second, iv p3, iv ch5, iv ch6, iv ch7, rv b185, iv ((p3 &&& (15 : Int32))), .unset, .unset, .unset, .unset]) rfl ?_
    show oS p e below T201 (mkF m 84 #[iv p0, iv p1, .val (.long q2), .second, iv p3, iv ch5, iv ch6, iv ch7, rv b185, iv ((p3 &&& (15 : Int32))), .unset, .unset, .unset, .unset] []) _
    rw [hnb]
    show oS p e below T201 (mkF m 84 #[iv p0, iv p1, .val (.long q2), .second, iv p3, iv ch5, iv ch6, iv ch7, rv b185, iv (own_n nb), .unset, .unset, .unset, .unset] []) _
    refine XS.iload X201.here hx rfl (Y at_84) rfl ?_
    refine st205 _ ?_
    refine XS.astore X205.here hx rfl (Y at_88) rfl rfl (l' := #[iv p0, iv p1, .val (.long q2), .second, iv p3, iv ch5, iv ch6, iv ch7, rv b185, iv (own_n nb), rv b205, .unset, .unset, .unset]) rfl ?_
    refine st210 _ ?_
    refine XS.dup X210.here hx rfl (Y at_93) rfl rfl ?_
    show oS p e below T210 (mkF m 94 #[iv p0, iv p1, .val (.long q2), .second, iv p3, iv ch5, iv ch6, iv ch7, rv b185, iv (own_n nb), rv b205, .unset, .unset, .unset] [(.ref b210), (.ref b210)]) _
    refine XS.aload X210.here hx rfl (Y at_94) rfl rfl ?_
    refine XS.aload X210.here hx rfl (Y at_96) rfl rfl ?_
    refine XS.iloadN X210.here hx rfl (Y at_98) rfl ?_
    refine XT.lloadN X210.here hx rfl (Y at_99) rfl ?_
    exact kz)
   obtain ⟨_, T222, Lc222, X222, hS222, hZ, hown, R222, hQ222, st222⟩ := own_specialH (vm0 := s.vm) (EL := consts_1) (W := 1) (y := mN53) (show Stand p l e _ (s.setVm s.vm) m _ below meth c _ _ _ _ from X210) hx hZ rfl hown (oq hw 11 rfl) (oq hw 12 rfl) (oq hw 13 rfl) (oq hw 10 rfl) (by decide) (rmMI l Z av0 hw [] b210 b185 b201 2 gv201 b205 nb (fun _ => 0) p1 q2 h210 n0 Z210 A210 F210_mId F210_mBody F210_mAttempt F210_mDueTime ge_b210 (own_Str.mk f216 f217 f218 f219) f220 f221 ne_b185_b210 ne_b201_b210 ne_b205_b210 hnb15) (by decide) (by decide) (own_EW hw) Rr215.1 ((State.WarmedH.refl s).since 0) (Nat.zero_le _) (g := (mkF m 100 #[iv p0, iv p1, .val (.long q2), .second, iv p3, iv ch5, iv ch6, iv ch7, rv b185, iv (own_n nb), rv b205, .unset, .unset, .unset] [(.long q2), (.int p1), (.ref b205), (.ref b185), (.ref b210), (.ref b210)])) rfl (by rw [hml]; rfl) (a := b210) (argsL := [(.ref b185), (.ref b205), (.int p1), (.long q2)]) (rest := [(.ref b210)]) (lenOf pd__Ljava_lang_String_A_BIJ_V rfl) rfl (Y at_100) rfl e210 (by decide : 5 + 5 ≤ _) (by decide : 27 + 47 ≤ _)
   have sf222_b185 := R222.safe f216.lt sf215_b185
   have sf222_b205 := R222.safe f221.lt sf215_b205
   have sf222_b210 := R222.safe A210.lt sf215_b210
   have Rr222 := Rr215.trans R222
   obtain ⟨rfl, N222q, b222, K222, FmId222, FmBody222, FmAttempt222, FmDueTime222, V222, gb222⟩ := hQ222
   have N222 := Fr.app N201 N222q
   have e222 : T222.heap = T222.heap := rfl
   have ne_b185_b222 : b185 ≠ b222 := Nat.ne_of_lt (Nat.lt_of_lt_of_le f216.lt gb222)
   have ne_b201_b222 : b201 ≠ b222 := Nat.ne_of_lt (Nat.lt_of_lt_of_le f219.lt gb222)
   have ne_b205_b222 : b205 ≠ b222 := Nat.ne_of_lt (Nat.lt_of_lt_of_le f221.lt gb222)
   have ne_b210_b222 : b210 ≠ b222 := Nat.ne_of_lt (Nat.lt_of_lt_of_le A210.lt gb222)
   have f224 := (f213.ext E210)
   have ne_dO_b222 : dO ≠ b222 := Nat.ne_of_lt (Nat.lt_of_lt_of_le f224.lt gb222)
   have f225 := (f214.ext E210)
   have ne_dX_b222 : dX ≠ b222 := Nat.ne_of_lt (Nat.lt_of_lt_of_le f225.lt gb222)
   have ge_b222 : n0 ≤ b222 := Nat.le_trans Z210 gb222
   have sz_b222 : h0.size ≤ b222 := Nat.le_trans K210.1 gb222
   have Zk222 : n0 ≤ T222.heap.size := Nat.le_trans Z210 K222.1
   have Kk222 : Keep h0 T222.heap [] := K210.trans K222 (allS (Or.inr sz_b210) all0)
   have f226 := (A210.keep K222)
   have f227 := (f216.keep K222)
   have f228 := (f217.keep K222 (ninS ne_b185_b210 nin0))
   have f229 := (f218.keep K222 (ninS ne_b185_b210 nin0))
   have f230 := (f219.keep K222 (ninS ne_b201_b210 nin0))
   have f231 := (own_stak (((own_stak ((((hSO.ext E185).ext E187).wr W192).wr W195) K201 (allS (own_exns f197) all0)).ext E205).ext E210) K222 (allS (own_exns A210) all0))
   have f232 := (own_stak (((own_stak ((((hSX.ext E185).ext E187).wr W192).wr W195) K201 (allS (own_exns f197) all0)).ext E205).ext E210) K222 (allS (own_exns A210) all0))
   have f233 := (f224.keep K222 (ninS ne_dO_b210 nin0))
   have f234 := (f225.keep K222 (ninS ne_dX_b210 nin0))
   have f235 := (own_stak (((own_stak f200 K201 (allS (own_exns f197) all0)).ext E205).ext E210) K222 (allS (own_exns A210) all0))
   have S237 : ∀ tz, oS p e below T222 (mkF m 107 #[iv p0, iv p1, .val (.long q2), .second, iv p3, iv ch5, iv ch6, iv ch7, rv b185, iv (own_n nb), rv b205, rv b210, .unset, .unset] [(.ref b210)]) tz → P0 tz := fun tz kz => S223 tz (by
    refine st222 _ ?_
    refine XS.astore X222.here hx rfl (Y at_103) rfl rfl (l' := #[iv p0, iv p1, .val (.long q2), .second, iv p3, iv ch5, iv ch6, iv ch7, rv b185, iv (own_n nb), rv b205, rv b210, .unset, .unset]) rfl ?_
    refine XS.aload X222.here hx rfl (Y at_105) rfl rfl ?_
    exact kz)
   obtain ⟨_, T236, Lc236, X236, hS236, hZ, hown, R236, hQ236, st236⟩ := own_virtualH (vm0 := T222.vm) (EL := consts_1) (W := 0) (y := mN54) (z := mN54) (show Stand p l e _ (s.setVm T222.vm) m _ below meth c _ _ _ _ from X222) hx hZ hown (oq hw 42 rfl) (oq hw 43 rfl) (notFace_of_selects (args := #[]) (mvT hZ (oq hw 45 rfl))) (oq hw 45 rfl) (oq hw 44 rfl) (oq hw 46 rfl) (oq hw 10 rfl) (by decide) (rmMT l Z av0 hw [] b210 b185 b201 2 gv201 b222 nb (fun _ => 0) p1 q2 dO dX wC T222.heap n0 Zk222 f226 FmId222 FmBody222 FmAttempt222 FmDueTime222 (own_Str.mk f227 f228 f229 f230) V222 f231 f232 f233 f234 (by decide) hnb15 f235 hwC) (by decide) (by decide) (own_EW hw) Rr222.1 hS222 (Nat.le_refl _) f226 (g := (mkF m 107 #[iv p0, iv p1, .val (.long q2), .second, iv p3, iv ch5, iv ch6, iv ch7, rv b185, iv (own_n nb), rv b205, rv b210, .unset, .unset] [(.ref b210)])) rfl (by rw [hml]; rfl) (argsL := []) (rest := []) (lenOf pd__Ljava_lang_String_ rfl) rfl (Y at_107) rfl e222 (by decide : 10 + 23 ≤ _) (by decide : 74 + 1576 ≤ _)
   have sf236_b185 := R236.safe f227.lt sf222_b185
   have f238 := (f221.keep K222)
   have sf236_b205 := R236.safe f238.lt sf222_b205
   have sf236_b210 := R236.safe f226.lt sf222_b210
   have Rr236 := Rr222.trans R236
   obtain ⟨a236, b236, gs236, rfl, N236q, K236, Ds236, sg236_0, sg236_1, sg236_2, sg236_3, sg236_4, sg236_5, sg236_6, sg236_7, sg236_8⟩ := hQ236
   have N236 := Fr.app N222 N236q
   have e236 : T236.heap = T236.heap := rfl
   have Zk236 : n0 ≤ T236.heap.size := Nat.le_trans Zk222 K236.1
   have Kk236 : Keep h0 T236.heap [] := Kk222.trans K236 all0
   have hps := own_pos 2 (own_sz p1.toInt) (own_sz q2.toInt) (own_sz (own_n nb).toInt)
   have hbs := own_bds (nt := 2) (by decide) (own_szI p1) (own_szL q2) (own_szB hnb15)
   have hNK : (((((((((0 + 8) + 2) + 10) + own_sz p1.toInt) + 6) + own_sz q2.toInt) + 2) + own_sz (own_n nb).toInt) + 7) < 1000 := hbs.2.2.2.2.2.2.2.2.2.2.2
   have S240 : ∀ tz, oS p e below T236 (mkF m 115 #[iv p0, iv p1, .val (.long q2), .second, iv p3, iv ch5, iv ch6, iv ch7, rv b185, iv (own_n nb), rv b205, rv b210, rv a236, .unset] [(.int 0), (.ref a236)]) tz → P0 tz := fun tz kz => S237 tz (by
    refine st236 _ ?_
    refine XS.astore X236.here hx rfl (Y at_110) rfl rfl (l' := #[iv p0, iv p1, .val (.long q2), .second, iv p3, iv ch5, iv ch6, iv ch7, rv b185, iv (own_n nb), rv b205, rv b210, rv a236, .unset]) rfl ?_
    refine XS.aload X236.here hx rfl (Y at_112) rfl rfl ?_
    show oS p e below T236 (mkF m 114 #[iv p0, iv p1, .val (.long q2), .second, iv p3, iv ch5, iv ch6, iv ch7, rv b185, iv (own_n nb), rv b205, rv b210, rv a236, .unset] [(.ref a236)]) _
    refine XT.iconstV X236.here hx rfl (0 : Int32) (Y at_114) (by decide) ?_
    exact kz)
   obtain ⟨a239, T239, h239, ks239, b239, k239, X239, e239, E239, hS239, hk239, hZ, hown, Ea239, Fc239, Fv239, Av239, la239, lb239, R239, Li239, sn239, st239⟩ := ldcCH (s := s) (vm0 := T236.vm) (show Stand p l e _ (s.setVm T236.vm) m _ below meth c _ _ _ _ from X236) hx hZ hown (oq hw 220 rfl) (own_wS hw) e236 hS236 (Nat.le_refl _) (own_EW hw) (List.mem_of_getElem? (i := 8) rfl : _ ∈ consts_1) Rr236.1 (vs := own_vl 8 own_t0) (z := own_n 8) own_e0 (own_nge (by decide)) (by rw [own_vlen]; exact own_nc (by decide)) (g := (mkF m 115 #[iv p0, iv p1, .val (.long q2), .second, iv p3, iv ch5, iv ch6, iv ch7, rv b185, iv (own_n nb), rv b205, rv b210, rv a236, .unset] [(.int 0), (.ref a236)])) rfl (Y at_115) (n := 32) (by decide) (by decide) (by decide) (by decide)
   have Rr239 := Rr236.trans R239
   have Z239 : n0 ≤ h239.size := Nat.le_trans Zk236 E239.1
   have K239 : Keep h0 h239 [] := Kk236.ext E239
   have Ds239 : own_Str Z h239 a239 b239 8 own_t0 := own_Str.mk Ea239 Fc239 Fv239 ⟨_, Av239⟩
   have f241 := (Ds236.E.ext E239)
   have f242 := (Ds236.C.ext E239)
   have f243 := (Ds236.V.ext E239)
   have f244 := (Ds236.A.ext E239)
   have f245 := ((own_stak (own_stak (((own_stak ((((hFm.ext E185).ext E187).wr W192).wr W195) K201 (allS (own_exns f197) all0)).ext E205).ext E210) K222 (allS (own_exns A210) all0)) K236 all0).ext E239)
   have f246 := ((own_stak f235 K236 all0).ext E239)
   obtain ⟨_, T247, Lc247, X247, hQ247, st247⟩ := own_callS (W := 0) (y := mN39) X239 hx hZ hown (oq hw 221 rfl) (oq hw 222 rfl) (oq hw 223 rfl) (oq hw 224 rfl) (by decide) (rmlit l Z av0 hw [] a236 b236 (((((((((0 + 8) + 2) + 10) + own_sz p1.toInt) + 6) + own_sz q2.toInt) + 2) + own_sz (own_n nb).toInt) + 7) gs236 a239 b239 8 own_t0 0 fm wC h239 n0 Z239 (own_Str.mk f241 f242 f243 f244) (own_Str.mk Ds239.E Ds239.C Ds239.V Ds239.A) ⟨hps.1, hNK, by decide⟩ sg236_0 hfm f245 f246 hwC) (by decide) (by decide) (g := (mkF m 117 #[iv p0, iv p1, .val (.long q2), .second, iv p3, iv ch5, iv ch6, iv ch7, rv b185, iv (own_n nb), rv b205, rv b210, rv a236, .unset] [(.ref a239), (.int 0), (.ref a236)])) rfl (by rw [hml]; rfl) (argsL := [(.ref a236), (.int 0), (.ref a239)]) (rest := []) (lenOf pd__Ljava_lang_String_ILjava_lang_String_I rfl) rfl (Y at_117) rfl e239 (by decide : 35 + 0 ≤ _) (by decide : 1686 + 0 ≤ _)
   obtain ⟨rfl, N247q, hh247⟩ := hQ247
   have N247 := Fr.app N236 N247q
   have e247 : T247.heap = h239 := hh247
   have f248 := ((f227.keep K236).ext E239)
   have f249 := ((f228.keep K236 nin0).ext E239)
   have f250 := ((f229.keep K236 nin0).ext E239)
   have f251 := ((f230.keep K236 nin0).ext E239)
   obtain ⟨_, T252, Lc252, X252, hQ252, st252⟩ := own_callS (W := 0) (y := mN39) X247 hx hZ hown (oq hw 221 rfl) (oq hw 222 rfl) (oq hw 223 rfl) (oq hw 224 rfl) (by decide) (rmlit l Z av0 hw [] a236 b236 (((((((((0 + 8) + 2) + 10) + own_sz p1.toInt) + 6) + own_sz q2.toInt) + 2) + own_sz (own_n nb).toInt) + 7) gs236 b185 b201 2 gv201 (0 + 8) fm wC h239 n0 Z239 (own_Str.mk f241 f242 f243 f244) (own_Str.mk f248 f249 f250 f251) ⟨hps.2.1, hNK, by decide⟩ sg236_1 hfm f245 f246 hwC) (by decide) (by decide) (g := (mkF m 128 #[iv p0, iv p1, .val (.long q2), .second, iv p3, iv ch5, iv ch6, iv ch7, rv b185, iv (own_n nb), rv b205, rv b210, rv a236, iv ((own_n (0 + 8)))] [(.ref b185), (.int (own_n (0 + 8))), (.ref a236)])) rfl (by rw [hml]; rfl) (argsL := [(.ref a236), (.int (own_n (0 + 8))), (.ref b185)]) (rest := []) (lenOf pd__Ljava_lang_String_ILjava_lang_String_I rfl) rfl (Y at_128) rfl e247 (by decide : 35 + 0 ≤ _) (by decide : 1686 + 0 ≤ _)
   obtain ⟨rfl, N252q, hh252⟩ := hQ252
   have N252 := Fr.app N247 N252q
   have e252 : T252.heap = h239 := hh252
   have S254 : ∀ tz, oS p e below T252 (mkF m 137 #[iv p0, iv p1, .val (.long q2), .second, iv p3, iv ch5, iv ch6, iv ch7, rv b185, iv (own_n nb), rv b205, rv b210, rv a236, iv ((own_n ((0 + 8) + 2)))] [(.int (own_n ((0 + 8) + 2))), (.ref a236)]) tz → P0 tz := fun tz kz => S240 tz (by
    refine st239 _ ?_
    refine st247 _ ?_
    refine XS.istore X247.here hx rfl (Y at_120) rfl (l' := #[iv p0, iv p1, .val (.long q2), .second, iv p3, iv ch5, iv ch6, iv ch7, rv b185, iv (own_n nb), rv b205, rv b210, rv a236, iv ((own_n (0 + 8)))]) rfl ?_
    refine XS.aload X247.here hx rfl (Y at_122) rfl rfl ?_
    refine XS.iload X247.here hx rfl (Y at_124) rfl ?_
    refine XS.aload X247.here hx rfl (Y at_126) rfl rfl ?_
    refine st252 _ ?_
    refine XS.istore X252.here hx rfl (Y at_131) rfl (l' := #[iv p0, iv p1, .val (.long q2), .second, iv p3, iv ch5, iv ch6, iv ch7, rv b185, iv (own_n nb), rv b205, rv b210, rv a236, iv ((own_n ((0 + 8) + 2)))]) rfl ?_
    refine XS.aload X252.here hx rfl (Y at_133) rfl rfl ?_
    show oS p e below T252 (mkF m 135 #[iv p0, iv p1, .val (.long q2), .second, iv p3, iv ch5, iv ch6, iv ch7, rv b185, iv (own_n nb), rv b205, rv b210, rv a236, iv ((own_n ((0 + 8) + 2)))] [(.ref a236)]) _
    refine XS.iload X252.here hx rfl (Y at_135) rfl ?_
    exact kz)
   obtain ⟨a253, T253, h253, ks253, b253, k253, X253, e253, E253, hS253, hk253, hZ, hown, Ea253, Fc253, Fv253, Av253, la253, lb253, R253, Li253, sn253, st253⟩ := ldcCH (s := s) (vm0 := T239.vm) (show Stand p l e _ (s.setVm T239.vm) m _ below meth c _ _ _ _ from X252) hx hZ hown (oq hw 251 rfl) (own_wS hw) e252 hS239 hk239 (own_EW hw) (List.mem_of_getElem? (i := 9) rfl : _ ∈ consts_1) Rr239.1 (vs := own_vl 10 own_t1) (z := own_n 10) own_e1 (own_nge (by decide)) (by rw [own_vlen]; exact own_nc (by decide)) (g := (mkF m 137 #[iv p0, iv p1, .val (.long q2), .second, iv p3, iv ch5, iv ch6, iv ch7, rv b185, iv (own_n nb), rv b205, rv b210, rv a236, iv ((own_n ((0 + 8) + 2)))] [(.int (own_n ((0 + 8) + 2))), (.ref a236)])) rfl (Y at_137) (n := 40) (by decide) (by decide) (by decide) (by decide)
   have Rr253 := Rr239.trans R253
   have Z253 : n0 ≤ h253.size := Nat.le_trans Z239 E253.1
   have K253 : Keep h0 h253 [] := K239.ext E253
   have Ds253 : own_Str Z h253 a253 b253 10 own_t1 := own_Str.mk Ea253 Fc253 Fv253 ⟨_, Av253⟩
   have f255 := (f241.ext E253)
   have f256 := (f242.ext E253)
   have f257 := (f243.ext E253)
   have f258 := (f244.ext E253)
   have f259 := (f245.ext E253)
   have f260 := (f246.ext E253)
   obtain ⟨_, T261, Lc261, X261, hQ261, st261⟩ := own_callS (W := 0) (y := mN39) X253 hx hZ hown (oq hw 221 rfl) (oq hw 222 rfl) (oq hw 223 rfl) (oq hw 224 rfl) (by decide) (rmlit l Z av0 hw [] a236 b236 (((((((((0 + 8) + 2) + 10) + own_sz p1.toInt) + 6) + own_sz q2.toInt) + 2) + own_sz (own_n nb).toInt) + 7) gs236 a253 b253 10 own_t1 ((0 + 8) + 2) fm wC h253 n0 Z253 (own_Str.mk f255 f256 f257 f258) (own_Str.mk Ds253.E Ds253.C Ds253.V Ds253.A) ⟨hps.2.2.1, hNK, by decide⟩ sg236_2 hfm f259 f260 hwC) (by decide) (by decide) (g := (mkF m 139 #[iv p0, iv p1, .val (.long q2), .second, iv p3, iv ch5, iv ch6, iv ch7, rv b185, iv (own_n nb), rv b205, rv b210, rv a236, iv ((own_n ((0 + 8) + 2)))] [(.ref a253), (.int (own_n ((0 + 8) + 2))), (.ref a236)])) rfl (by rw [hml]; rfl) (argsL := [(.ref a236), (.int (own_n ((0 + 8) + 2))), (.ref a253)]) (rest := []) (lenOf pd__Ljava_lang_String_ILjava_lang_String_I rfl) rfl (Y at_139) rfl e253 (by decide : 37 + 0 ≤ _) (by decide : 1730 + 0 ≤ _)
   obtain ⟨rfl, N261q, hh261⟩ := hQ261
   have N261 := Fr.app N252 N261q
   have e261 : T261.heap = h253 := hh261
   obtain ⟨_, T262, Lc262, X262, hQ262, st262⟩ := own_callS (W := 0) (y := mN42) X261 hx hZ hown (oq hw 252 rfl) (oq hw 253 rfl) (oq hw 223 rfl) (oq hw 254 rfl) (by decide) (rmnum l Z av0 hw [] a236 b236 (((((((((0 + 8) + 2) + 10) + own_sz p1.toInt) + 6) + own_sz q2.toInt) + 2) + own_sz (own_n nb).toInt) + 7) gs236 (((0 + 8) + 2) + 10) ((p1).toInt64) fm wC h253 n0 Z253 (own_Str.mk f255 f256 f257 f258) (by rw [own_i2l]; exact ⟨hps.2.2.2.1, hNK⟩) (by rw [own_i2l]; exact sg236_3) hfm f259 f260 hwC) (by decide) (by decide) (g := (mkF m 150 #[iv p0, iv p1, .val (.long q2), .second, iv p3, iv ch5, iv ch6, iv ch7, rv b185, iv (own_n nb), rv b205, rv b210, rv a236, iv ((own_n (((0 + 8) + 2) + 10)))] [(.long (p1).toInt64), (.int (own_n (((0 + 8) + 2) + 10))), (.ref a236)])) rfl (by rw [hml]; rfl) (argsL := [(.ref a236), (.int (own_n (((0 + 8) + 2) + 10))), (.long (p1).toInt64)]) (rest := []) (lenOf pd__Ljava_lang_String_IJ_I rfl) rfl (Y at_150) rfl e261 (by decide : 37 + 0 ≤ _) (by decide : 1730 + 0 ≤ _)
   obtain ⟨rfl, N262q, hh262⟩ := hQ262
   have N262 := Fr.app N261 N262q
   have e262 : T262.heap = h253 := hh262
   have S264 : ∀ tz, oS p e below T262 (mkF m 159 #[iv p0, iv p1, .val (.long q2), .second, iv p3, iv ch5, iv ch6, iv ch7, rv b185, iv (own_n nb), rv b205, rv b210, rv a236, iv ((own_n ((((0 + 8) + 2) + 10) + own_sz p1.toInt)))] [(.int (own_n ((((0 + 8) + 2) + 10) + own_sz p1.toInt))), (.ref a236)]) tz → P0 tz := fun tz kz => S254 tz (by
    refine st253 _ ?_
    refine st261 _ ?_
    refine XS.istore X261.here hx rfl (Y at_142) rfl (l' := #[iv p0, iv p1, .val (.long q2), .second, iv p3, iv ch5, iv ch6, iv ch7, rv b185, iv (own_n nb), rv b205, rv b210, rv a236, iv ((own_n (((0 + 8) + 2) + 10)))]) rfl ?_
    refine XS.aload X261.here hx rfl (Y at_144) rfl rfl ?_
    refine XS.iload X261.here hx rfl (Y at_146) rfl ?_
    refine XS.iloadN X261.here hx rfl (Y at_148) rfl ?_
    refine XT.i2l X261.here hx rfl (Y at_149) rfl ?_
    refine st262 _ ?_
    show oS p e below T262 (mkF m 153 #[iv p0, iv p1, .val (.long q2), .second, iv p3, iv ch5, iv ch6, iv ch7, rv b185, iv (own_n nb), rv b205, rv b210, rv a236, iv ((own_n (((0 + 8) + 2) + 10)))] [(.int (own_n ((((0 + 8) + 2) + 10) + own_sz ((p1).toInt64).toInt)))]) _
    rw [own_i2l]
    show oS p e below T262 (mkF m 153 #[iv p0, iv p1, .val (.long q2), .second, iv p3, iv ch5, iv ch6, iv ch7, rv b185, iv (own_n nb), rv b205, rv b210, rv a236, iv ((own_n (((0 + 8) + 2) + 10)))] [(.int (own_n ((((0 + 8) + 2) + 10) + own_sz p1.toInt)))]) _
    refine XS.istore X262.here hx rfl (Y at_153) rfl (l' := #[iv p0, iv p1, .val (.long q2), .second, iv p3, iv ch5, iv ch6, iv ch7, rv b185, iv (own_n nb), rv b205, rv b210, rv a236, iv ((own_n ((((0 + 8) + 2) + 10) + own_sz p1.toInt)))]) rfl ?_
    refine XS.aload X262.here hx rfl (Y at_155) rfl rfl ?_
    refine XS.iload X262.here hx rfl (Y at_157) rfl ?_
    exact kz)
   obtain ⟨a263, T263, h263, ks263, b263, k263, X263, e263, E263, hS263, hk263, hZ, hown, Ea263, Fc263, Fv263, Av263, la263, lb263, R263, Li263, sn263, st263⟩ := ldcCH (s := s) (vm0 := T253.vm) (show Stand p l e _ (s.setVm T253.vm) m _ below meth c _ _ _ _ from X262) hx hZ hown (oq hw 279 rfl) (own_wS hw) e262 hS253 hk253 (own_EW hw) (List.mem_of_getElem? (i := 10) rfl : _ ∈ consts_1) Rr253.1 (vs := own_vl 6 own_t2) (z := own_n 6) own_e2 (own_nge (by decide)) (by rw [own_vlen]; exact own_nc (by decide)) (g := (mkF m 159 #[iv p0, iv p1, .val (.long q2), .second, iv p3, iv ch5, iv ch6, iv ch7, rv b185, iv (own_n nb), rv b205, rv b210, rv a236, iv ((own_n ((((0 + 8) + 2) + 10) + own_sz p1.toInt)))] [(.int (own_n ((((0 + 8) + 2) + 10) + own_sz p1.toInt))), (.ref a236)])) rfl (Y at_159) (n := 24) (by decide) (by decide) (by decide) (by decide)
   have Rr263 := Rr253.trans R263
   have Z263 : n0 ≤ h263.size := Nat.le_trans Z253 E263.1
   have K263 : Keep h0 h263 [] := K253.ext E263
   have Ds263 : own_Str Z h263 a263 b263 6 own_t2 := own_Str.mk Ea263 Fc263 Fv263 ⟨_, Av263⟩
   have f265 := (f255.ext E263)
   have f266 := (f256.ext E263)
   have f267 := (f257.ext E263)
   have f268 := (f258.ext E263)
   have f269 := (f259.ext E263)
   have f270 := (f260.ext E263)
   obtain ⟨_, T271, Lc271, X271, hQ271, st271⟩ := own_callS (W := 0) (y := mN39) X263 hx hZ hown (oq hw 221 rfl) (oq hw 222 rfl) (oq hw 223 rfl) (oq hw 224 rfl) (by decide) (rmlit l Z av0 hw [] a236 b236 (((((((((0 + 8) + 2) + 10) + own_sz p1.toInt) + 6) + own_sz q2.toInt) + 2) + own_sz (own_n nb).toInt) + 7) gs236 a263 b263 6 own_t2 ((((0 + 8) + 2) + 10) + own_sz p1.toInt) fm wC h263 n0 Z263 (own_Str.mk f265 f266 f267 f268) (own_Str.mk Ds263.E Ds263.C Ds263.V Ds263.A) ⟨hps.2.2.2.2.1, hNK, by decide⟩ sg236_4 hfm f269 f270 hwC) (by decide) (by decide) (g := (mkF m 161 #[iv p0, iv p1, .val (.long q2), .second, iv p3, iv ch5, iv ch6, iv ch7, rv b185, iv (own_n nb), rv b205, rv b210, rv a236, iv ((own_n ((((0 + 8) + 2) + 10) + own_sz p1.toInt)))] [(.ref a263), (.int (own_n ((((0 + 8) + 2) + 10) + own_sz p1.toInt))), (.ref a236)])) rfl (by rw [hml]; rfl) (argsL := [(.ref a236), (.int (own_n ((((0 + 8) + 2) + 10) + own_sz p1.toInt))), (.ref a263)]) (rest := []) (lenOf pd__Ljava_lang_String_ILjava_lang_String_I rfl) rfl (Y at_161) rfl e263 (by decide : 39 + 0 ≤ _) (by decide : 1758 + 0 ≤ _)
   obtain ⟨rfl, N271q, hh271⟩ := hQ271
   have N271 := Fr.app N262 N271q
   have e271 : T271.heap = h263 := hh271
   obtain ⟨_, T272, Lc272, X272, hQ272, st272⟩ := own_callS (W := 0) (y := mN42) X271 hx hZ hown (oq hw 252 rfl) (oq hw 253 rfl) (oq hw 223 rfl) (oq hw 254 rfl) (by decide) (rmnum l Z av0 hw [] a236 b236 (((((((((0 + 8) + 2) + 10) + own_sz p1.toInt) + 6) + own_sz q2.toInt) + 2) + own_sz (own_n nb).toInt) + 7) gs236 (((((0 + 8) + 2) + 10) + own_sz p1.toInt) + 6) (q2) fm wC h263 n0 Z263 (own_Str.mk f265 f266 f267 f268) ⟨hps.2.2.2.2.2.1, hNK⟩ sg236_5 hfm f269 f270 hwC) (by decide) (by decide) (g := (mkF m 171 #[iv p0, iv p1, .val (.long q2), .second, iv p3, iv ch5, iv ch6, iv ch7, rv b185, iv (own_n nb), rv b205, rv b210, rv a236, iv ((own_n (((((0 + 8) + 2) + 10) + own_sz p1.toInt) + 6)))] [(.long q2), (.int (own_n (((((0 + 8) + 2) + 10) + own_sz p1.toInt) + 6))), (.ref a236)])) rfl (by rw [hml]; rfl) (argsL := [(.ref a236), (.int (own_n (((((0 + 8) + 2) + 10) + own_sz p1.toInt) + 6))), (.long q2)]) (rest := []) (lenOf pd__Ljava_lang_String_IJ_I rfl) rfl (Y at_171) rfl e271 (by decide : 39 + 0 ≤ _) (by decide : 1758 + 0 ≤ _)
   obtain ⟨rfl, N272q, hh272⟩ := hQ272
   have N272 := Fr.app N271 N272q
   have e272 : T272.heap = h263 := hh272
   have S274 : ∀ tz, oS p e below T272 (mkF m 180 #[iv p0, iv p1, .val (.long q2), .second, iv p3, iv ch5, iv ch6, iv ch7, rv b185, iv (own_n nb), rv b205, rv b210, rv a236, iv ((own_n ((((((0 + 8) + 2) + 10) + own_sz p1.toInt) + 6) + own_sz q2.toInt)))] [(.int (own_n ((((((0 + 8) + 2) + 10) + own_sz p1.toInt) + 6) + own_sz q2.toInt))), (.ref a236)]) tz → P0 tz := fun tz kz => S264 tz (by
    refine st263 _ ?_
    refine st271 _ ?_
    refine XS.istore X271.here hx rfl (Y at_164) rfl (l' := #[iv p0, iv p1, .val (.long q2), .second, iv p3, iv ch5, iv ch6, iv ch7, rv b185, iv (own_n nb), rv b205, rv b210, rv a236, iv ((own_n (((((0 + 8) + 2) + 10) + own_sz p1.toInt) + 6)))]) rfl ?_
    refine XS.aload X271.here hx rfl (Y at_166) rfl rfl ?_
    refine XS.iload X271.here hx rfl (Y at_168) rfl ?_
    refine XT.lloadN X271.here hx rfl (Y at_170) rfl ?_
    refine st272 _ ?_
    show oS p e below T272 (mkF m 174 #[iv p0, iv p1, .val (.long q2), .second, iv p3, iv ch5, iv ch6, iv ch7, rv b185, iv (own_n nb), rv b205, rv b210, rv a236, iv ((own_n (((((0 + 8) + 2) + 10) + own_sz p1.toInt) + 6)))] [(.int (own_n ((((((0 + 8) + 2) + 10) + own_sz p1.toInt) + 6) + own_sz q2.toInt)))]) _
    refine XS.istore X272.here hx rfl (Y at_174) rfl (l' := #[iv p0, iv p1, .val (.long q2), .second, iv p3, iv ch5, iv ch6, iv ch7, rv b185, iv (own_n nb), rv b205, rv b210, rv a236, iv ((own_n ((((((0 + 8) + 2) + 10) + own_sz p1.toInt) + 6) + own_sz q2.toInt)))]) rfl ?_
    refine XS.aload X272.here hx rfl (Y at_176) rfl rfl ?_
    refine XS.iload X272.here hx rfl (Y at_178) rfl ?_
    exact kz)
   obtain ⟨a273, T273, h273, ks273, b273, k273, X273, e273, E273, hS273, hk273, hZ, hown, Ea273, Fc273, Fv273, Av273, la273, lb273, R273, Li273, sn273, st273⟩ := ldcCH (s := s) (vm0 := T263.vm) (show Stand p l e _ (s.setVm T263.vm) m _ below meth c _ _ _ _ from X272) hx hZ hown (oq hw 280 rfl) (own_wS hw) e272 hS263 hk263 (own_EW hw) (List.mem_of_getElem? (i := 11) rfl : _ ∈ consts_1) Rr263.1 (vs := own_vl 2 own_t3) (z := own_n 2) own_e3 (own_nge (by decide)) (by rw [own_vlen]; exact own_nc (by decide)) (g := (mkF m 180 #[iv p0, iv p1, .val (.long q2), .second, iv p3, iv ch5, iv ch6, iv ch7, rv b185, iv (own_n nb), rv b205, rv b210, rv a236, iv ((own_n ((((((0 + 8) + 2) + 10) + own_sz p1.toInt) + 6) + own_sz q2.toInt)))] [(.int (own_n ((((((0 + 8) + 2) + 10) + own_sz p1.toInt) + 6) + own_sz q2.toInt))), (.ref a236)])) rfl (Y at_180) (n := 8) (by decide) (by decide) (by decide) (by decide)
   have Rr273 := Rr263.trans R273
   have Z273 : n0 ≤ h273.size := Nat.le_trans Z263 E273.1
   have K273 : Keep h0 h273 [] := K263.ext E273
   have Ds273 : own_Str Z h273 a273 b273 2 own_t3 := own_Str.mk Ea273 Fc273 Fv273 ⟨_, Av273⟩
   have f275 := (f265.ext E273)
   have f276 := (f266.ext E273)
   have f277 := (f267.ext E273)
   have f278 := (f268.ext E273)
   have f279 := (f269.ext E273)
   have f280 := (f270.ext E273)
   obtain ⟨_, T281, Lc281, X281, hQ281, st281⟩ := own_callS (W := 0) (y := mN39) X273 hx hZ hown (oq hw 221 rfl) (oq hw 222 rfl) (oq hw 223 rfl) (oq hw 224 rfl) (by decide) (rmlit l Z av0 hw [] a236 b236 (((((((((0 + 8) + 2) + 10) + own_sz p1.toInt) + 6) + own_sz q2.toInt) + 2) + own_sz (own_n nb).toInt) + 7) gs236 a273 b273 2 own_t3 ((((((0 + 8) + 2) + 10) + own_sz p1.toInt) + 6) + own_sz q2.toInt) fm wC h273 n0 Z273 (own_Str.mk f275 f276 f277 f278) (own_Str.mk Ds273.E Ds273.C Ds273.V Ds273.A) ⟨hps.2.2.2.2.2.2.1, hNK, by decide⟩ sg236_6 hfm f279 f280 hwC) (by decide) (by decide) (g := (mkF m 182 #[iv p0, iv p1, .val (.long q2), .second, iv p3, iv ch5, iv ch6, iv ch7, rv b185, iv (own_n nb), rv b205, rv b210, rv a236, iv ((own_n ((((((0 + 8) + 2) + 10) + own_sz p1.toInt) + 6) + own_sz q2.toInt)))] [(.ref a273), (.int (own_n ((((((0 + 8) + 2) + 10) + own_sz p1.toInt) + 6) + own_sz q2.toInt))), (.ref a236)])) rfl (by rw [hml]; rfl) (argsL := [(.ref a236), (.int (own_n ((((((0 + 8) + 2) + 10) + own_sz p1.toInt) + 6) + own_sz q2.toInt))), (.ref a273)]) (rest := []) (lenOf pd__Ljava_lang_String_ILjava_lang_String_I rfl) rfl (Y at_182) rfl e273 (by decide : 41 + 0 ≤ _) (by decide : 1770 + 0 ≤ _)
   obtain ⟨rfl, N281q, hh281⟩ := hQ281
   have N281 := Fr.app N272 N281q
   have e281 : T281.heap = h273 := hh281
   obtain ⟨_, T282, Lc282, X282, hQ282, st282⟩ := own_callS (W := 0) (y := mN42) X281 hx hZ hown (oq hw 252 rfl) (oq hw 253 rfl) (oq hw 223 rfl) (oq hw 254 rfl) (by decide) (rmnum l Z av0 hw [] a236 b236 (((((((((0 + 8) + 2) + 10) + own_sz p1.toInt) + 6) + own_sz q2.toInt) + 2) + own_sz (own_n nb).toInt) + 7) gs236 (((((((0 + 8) + 2) + 10) + own_sz p1.toInt) + 6) + own_sz q2.toInt) + 2) (((own_n nb)).toInt64) fm wC h273 n0 Z273 (own_Str.mk f275 f276 f277 f278) (by rw [own_i2l]; exact ⟨hps.2.2.2.2.2.2.2.1, hNK⟩) (by rw [own_i2l]; exact sg236_7) hfm f279 f280 hwC) (by decide) (by decide) (g := (mkF m 194 #[iv p0, iv p1, .val (.long q2), .second, iv p3, iv ch5, iv ch6, iv ch7, rv b185, iv (own_n nb), rv b205, rv b210, rv a236, iv ((own_n (((((((0 + 8) + 2) + 10) + own_sz p1.toInt) + 6) + own_sz q2.toInt) + 2)))] [(.long ((own_n nb)).toInt64), (.int (own_n (((((((0 + 8) + 2) + 10) + own_sz p1.toInt) + 6) + own_sz q2.toInt) + 2))), (.ref a236)])) rfl (by rw [hml]; rfl) (argsL := [(.ref a236), (.int (own_n (((((((0 + 8) + 2) + 10) + own_sz p1.toInt) + 6) + own_sz q2.toInt) + 2))), (.long ((own_n nb)).toInt64)]) (rest := []) (lenOf pd__Ljava_lang_String_IJ_I rfl) rfl (Y at_194) rfl e281 (by decide : 41 + 0 ≤ _) (by decide : 1770 + 0 ≤ _)
   obtain ⟨rfl, N282q, hh282⟩ := hQ282
   have N282 := Fr.app N281 N282q
   have e282 : T282.heap = h273 := hh282
   have S284 : ∀ tz, oS p e below T282 (mkF m 203 #[iv p0, iv p1, .val (.long q2), .second, iv p3, iv ch5, iv ch6, iv ch7, rv b185, iv (own_n nb), rv b205, rv b210, rv a236, iv ((own_n ((((((((0 + 8) + 2) + 10) + own_sz p1.toInt) + 6) + own_sz q2.toInt) + 2) + own_sz (own_n nb).toInt)))] [(.int (own_n ((((((((0 + 8) + 2) + 10) + own_sz p1.toInt) + 6) + own_sz q2.toInt) + 2) + own_sz (own_n nb).toInt))), (.ref a236)]) tz → P0 tz := fun tz kz => S274 tz (by
    refine st273 _ ?_
    refine st281 _ ?_
    refine XS.istore X281.here hx rfl (Y at_185) rfl (l' := #[iv p0, iv p1, .val (.long q2), .second, iv p3, iv ch5, iv ch6, iv ch7, rv b185, iv (own_n nb), rv b205, rv b210, rv a236, iv ((own_n (((((((0 + 8) + 2) + 10) + own_sz p1.toInt) + 6) + own_sz q2.toInt) + 2)))]) rfl ?_
    refine XS.aload X281.here hx rfl (Y at_187) rfl rfl ?_
    refine XS.iload X281.here hx rfl (Y at_189) rfl ?_
    refine XS.iload X281.here hx rfl (Y at_191) rfl ?_
    refine XT.i2l X281.here hx rfl (Y at_193) rfl ?_
    show oS p e below T281 (mkF m 194 #[iv p0, iv p1, .val (.long q2), .second, iv p3, iv ch5, iv ch6, iv ch7, rv b185, iv (own_n nb), rv b205, rv b210, rv a236, iv ((own_n (((((((0 + 8) + 2) + 10) + own_sz p1.toInt) + 6) + own_sz q2.toInt) + 2)))] [(.long ((own_n nb)).toInt64), (.int (own_n (((((((0 + 8) + 2) + 10) + own_sz p1.toInt) + 6) + own_sz q2.toInt) + 2))), (.ref a236)]) _
    refine st282 _ ?_
    show oS p e below T282 (mkF m 197 #[iv p0, iv p1, .val (.long q2), .second, iv p3, iv ch5, iv ch6, iv ch7, rv b185, iv (own_n nb), rv b205, rv b210, rv a236, iv ((own_n (((((((0 + 8) + 2) + 10) + own_sz p1.toInt) + 6) + own_sz q2.toInt) + 2)))] [(.int (own_n ((((((((0 + 8) + 2) + 10) + own_sz p1.toInt) + 6) + own_sz q2.toInt) + 2) + own_sz (((own_n nb)).toInt64).toInt)))]) _
    rw [own_i2l]
    show oS p e below T282 (mkF m 197 #[iv p0, iv p1, .val (.long q2), .second, iv p3, iv ch5, iv ch6, iv ch7, rv b185, iv (own_n nb), rv b205, rv b210, rv a236, iv ((own_n (((((((0 + 8) + 2) + 10) + own_sz p1.toInt) + 6) + own_sz q2.toInt) + 2)))] [(.int (own_n ((((((((0 + 8) + 2) + 10) + own_sz p1.toInt) + 6) + own_sz q2.toInt) + 2) + own_sz (own_n nb).toInt)))]) _
    refine XS.istore X282.here hx rfl (Y at_197) rfl (l' := #[iv p0, iv p1, .val (.long q2), .second, iv p3, iv ch5, iv ch6, iv ch7, rv b185, iv (own_n nb), rv b205, rv b210, rv a236, iv ((own_n ((((((((0 + 8) + 2) + 10) + own_sz p1.toInt) + 6) + own_sz q2.toInt) + 2) + own_sz (own_n nb).toInt)))]) rfl ?_
    refine XS.aload X282.here hx rfl (Y at_199) rfl rfl ?_
    refine XS.iload X282.here hx rfl (Y at_201) rfl ?_
    exact kz)
   obtain ⟨a283, T283, h283, ks283, b283, k283, X283, e283, E283, hS283, hk283, hZ, hown, Ea283, Fc283, Fv283, Av283, la283, lb283, R283, Li283, sn283, st283⟩ := ldcCH (s := s) (vm0 := T273.vm) (show Stand p l e _ (s.setVm T273.vm) m _ below meth c _ _ _ _ from X282) hx hZ hown (oq hw 281 rfl) (own_wS hw) e282 hS273 hk273 (own_EW hw) (List.mem_of_getElem? (i := 12) rfl : _ ∈ consts_1) Rr273.1 (vs := own_vl 7 own_t4) (z := own_n 7) own_e4 (own_nge (by decide)) (by rw [own_vlen]; exact own_nc (by decide)) (g := (mkF m 203 #[iv p0, iv p1, .val (.long q2), .second, iv p3, iv ch5, iv ch6, iv ch7, rv b185, iv (own_n nb), rv b205, rv b210, rv a236, iv ((own_n ((((((((0 + 8) + 2) + 10) + own_sz p1.toInt) + 6) + own_sz q2.toInt) + 2) + own_sz (own_n nb).toInt)))] [(.int (own_n ((((((((0 + 8) + 2) + 10) + own_sz p1.toInt) + 6) + own_sz q2.toInt) + 2) + own_sz (own_n nb).toInt))), (.ref a236)])) rfl (Y at_203) (n := 28) (by decide) (by decide) (by decide) (by decide)
   have Rr283 := Rr273.trans R283
   have Z283 : n0 ≤ h283.size := Nat.le_trans Z273 E283.1
   have K283 : Keep h0 h283 [] := K273.ext E283
   have Ds283 : own_Str Z h283 a283 b283 7 own_t4 := own_Str.mk Ea283 Fc283 Fv283 ⟨_, Av283⟩
   have f285 := (f275.ext E283)
   have f286 := (f276.ext E283)
   have f287 := (f277.ext E283)
   have f288 := (f278.ext E283)
   have f289 := (f279.ext E283)
   have f290 := (f280.ext E283)
   obtain ⟨_, T291, Lc291, X291, hQ291, st291⟩ := own_callS (W := 0) (y := mN39) X283 hx hZ hown (oq hw 221 rfl) (oq hw 222 rfl) (oq hw 223 rfl) (oq hw 224 rfl) (by decide) (rmlit l Z av0 hw [] a236 b236 (((((((((0 + 8) + 2) + 10) + own_sz p1.toInt) + 6) + own_sz q2.toInt) + 2) + own_sz (own_n nb).toInt) + 7) gs236 a283 b283 7 own_t4 ((((((((0 + 8) + 2) + 10) + own_sz p1.toInt) + 6) + own_sz q2.toInt) + 2) + own_sz (own_n nb).toInt) fm wC h283 n0 Z283 (own_Str.mk f285 f286 f287 f288) (own_Str.mk Ds283.E Ds283.C Ds283.V Ds283.A) ⟨hps.2.2.2.2.2.2.2.2, hNK, by decide⟩ sg236_8 hfm f289 f290 hwC) (by decide) (by decide) (g := (mkF m 205 #[iv p0, iv p1, .val (.long q2), .second, iv p3, iv ch5, iv ch6, iv ch7, rv b185, iv (own_n nb), rv b205, rv b210, rv a236, iv ((own_n ((((((((0 + 8) + 2) + 10) + own_sz p1.toInt) + 6) + own_sz q2.toInt) + 2) + own_sz (own_n nb).toInt)))] [(.ref a283), (.int (own_n ((((((((0 + 8) + 2) + 10) + own_sz p1.toInt) + 6) + own_sz q2.toInt) + 2) + own_sz (own_n nb).toInt))), (.ref a236)])) rfl (by rw [hml]; rfl) (argsL := [(.ref a236), (.int (own_n ((((((((0 + 8) + 2) + 10) + own_sz p1.toInt) + 6) + own_sz q2.toInt) + 2) + own_sz (own_n nb).toInt))), (.ref a283)]) (rest := []) (lenOf pd__Ljava_lang_String_ILjava_lang_String_I rfl) rfl (Y at_205) rfl e283 (by decide : 43 + 0 ≤ _) (by decide : 1802 + 0 ≤ _)
   obtain ⟨rfl, N291q, hh291⟩ := hQ291
   have N291 := Fr.app N282 N291q
   have e291 : T291.heap = h283 := hh291
   obtain ⟨_, T292, Lc292, X292, hQ292, st292⟩ := own_virtual (W := 1) (y := mN1) (z := mN1) X291 hx hZ hown (oq hw 228 rfl) (oq hw 77 rfl) (notFace_of_selects (args := #[]) (mvT hZ (oq hw 79 rfl))) (oq hw 79 rfl) (oq hw 78 rfl) (oq hw 80 rfl) (oq hw 1 rfl) (by decide) (rmLen l Z av0 hw [] a236 b236 (((((((((0 + 8) + 2) + 10) + own_sz p1.toInt) + 6) + own_sz q2.toInt) + 2) + own_sz (own_n nb).toInt) + 7) gs236 wC h283 n0 Z283 (own_Str.mk f285 f286 f287 f288) hNK f290 hwC) (by decide) (by decide) f285 (g := (mkF m 214 #[iv p0, iv p1, .val (.long q2), .second, iv p3, iv ch5, iv ch6, iv ch7, rv b185, iv (own_n nb), rv b205, rv b210, rv a236, iv ((own_n (((((((((0 + 8) + 2) + 10) + own_sz p1.toInt) + 6) + own_sz q2.toInt) + 2) + own_sz (own_n nb).toInt) + 7)))] [(.ref a236), (.int (own_n (((((((((0 + 8) + 2) + 10) + own_sz p1.toInt) + 6) + own_sz q2.toInt) + 2) + own_sz (own_n nb).toInt) + 7)))])) rfl (by rw [hml]; rfl) (argsL := []) (rest := [(.int (own_n (((((((((0 + 8) + 2) + 10) + own_sz p1.toInt) + 6) + own_sz q2.toInt) + 2) + own_sz (own_n nb).toInt) + 7)))]) (lenOf pd__I rfl) rfl (Y at_214) rfl e291 (by decide : 43 + 0 ≤ _) (by decide : 1802 + 0 ≤ _)
   obtain ⟨rfl, N292q, hh292⟩ := hQ292
   have N292 := Fr.app N291 N292q
   have e292 : T292.heap = h283 := hh292
   have S293 : ∀ tz, oS p e below T292 (mkF m 225 #[iv p0, iv p1, .val (.long q2), .second, iv p3, iv ch5, iv ch6, iv ch7, rv b185, iv (own_n nb), rv b205, rv b210, rv a236, iv ((own_n (((((((((0 + 8) + 2) + 10) + own_sz p1.toInt) + 6) + own_sz q2.toInt) + 2) + own_sz (own_n nb).toInt) + 7)))] [(.int 1)]) tz → P0 tz := fun tz kz => S284 tz (by
    refine st283 _ ?_
    refine st291 _ ?_
    refine XS.istore X291.here hx rfl (Y at_208) rfl (l' := #[iv p0, iv p1, .val (.long q2), .second, iv p3, iv ch5, iv ch6, iv ch7, rv b185, iv (own_n nb), rv b205, rv b210, rv a236, iv ((own_n (((((((((0 + 8) + 2) + 10) + own_sz p1.toInt) + 6) + own_sz q2.toInt) + 2) + own_sz (own_n nb).toInt) + 7)))]) rfl ?_
    refine XS.iload X291.here hx rfl (Y at_210) rfl ?_
    refine XS.aload X291.here hx rfl (Y at_212) rfl rfl ?_
    show oS p e below T291 (mkF m 214 #[iv p0, iv p1, .val (.long q2), .second, iv p3, iv ch5, iv ch6, iv ch7, rv b185, iv (own_n nb), rv b205, rv b210, rv a236, iv ((own_n (((((((((0 + 8) + 2) + 10) + own_sz p1.toInt) + 6) + own_sz q2.toInt) + 2) + own_sz (own_n nb).toInt) + 7)))] [(.ref a236), (.int (own_n (((((((((0 + 8) + 2) + 10) + own_sz p1.toInt) + 6) + own_sz q2.toInt) + 2) + own_sz (own_n nb).toInt) + 7)))]) _
    refine st292 _ ?_
    refine XS.icmpNo X292.here hx rfl (Y at_217) rfl (XT.ii_ne_f rfl) ?_
    refine XT.iconstV X292.here hx rfl (1 : Int32) (Y at_220) (by decide) ?_
    refine XS.goto X292.here hx rfl (pc0 := 221) (pc' := 225) rfl (Y at_221) (by decide) (by decide) ?_
    exact kz)
   obtain ⟨fs, hr, hrun, hended, hEnd⟩ := X292.leaveW hS283 (by rw [e292]; exact hk283) (v := some (.int 1)) (fun h => by rw [Bd.returns] at h; cases h)
   refine ⟨_, _, pre0 _ (S293 _ ?_), hrun, hended, _, _, rfl, ?_, (by show CHr Z consts_1 s.vm s.heap T292.vm T292.heap; rw [hh, e292]; exact Rr283.trans (CHv.at (s := s) (vm0 := T283.vm) (show Stand p l e _ (s.setVm T283.vm) m _ below meth c _ _ _ _ from X292) hZ (own_EW hw) Rr283.1)), hEnd.1, hEnd.2.1, hEnd.2.2.1, hEnd.2.2.2.mono (by decide) (by decide)⟩
   · exact retN X292 hx (t := .boolean) Bd.returns (by simp) (Y at_225) hr
   · show Qrm0 Z p0 p1 q2 p3 wC fm dO dX h0 n0 _ T292.heap _
     rw [e292]
     exact ⟨rfl, N292⟩
set_option maxRecDepth 65536 in
set_option maxHeartbeats 40000000 in
theorem comes_1 {Post : Tables → Env → Array Value → State → Outcome → State → Prop} (hpost : ∀ tb e args s v u, (limb_1_1.after args s (.returned v) u = true ∧ limb_1_2.after args s (.returned v) u = true ∧ True) → Jvm.ReturnedEndW s (.returned v) u (Jvm.fieldLocs frame_1_writes args s ++ Jvm.arrayLocs frame_1_arrays args s ++ Jvm.staticLocs frame_1_statics s) 64 13952 → Post tb e args s (.returned v) u) :
    ArmFor flags0 classFile x code maxLocals ret World_1 tables_1 room_1 Calls_1 rest_1 Pre_1 Post := by
  intro l hfl _ _ p e ha hc hk s m args below hf hA hF happ hP
  obtain ⟨hcalls, hrest, hpre⟩ := hP
  obtain ⟨-, -, -, hnamed, -, -, -, hat⟩ := (Spec.applies_iff hf).mp happ
  obtain ⟨hg, hn⟩ := and_e (Cond.before_iff.mp (show (Jvm.Cond.and given_1 narrow_1).before args s = true from hpre))
  obtain ⟨g0, r0⟩ := and_e hg
  obtain ⟨g1, r1⟩ := and_e r0
  obtain ⟨g2, r2⟩ := and_e r1
  obtain ⟨g3, r3⟩ := and_e r2
  obtain ⟨w0, w1, w2, w3, rfl⟩ : ∃ w0 w1 w2 w3 : Value, args = #[w0, w1, w2, w3] := by
    have hs : args.size = 4 := by simpa [Cond.value, given_1] using g0
    obtain ⟨L⟩ := args
    match L, hs with
    | [w0, w1, w2, w3], _ => exact ⟨w0, w1, w2, w3, rfl⟩
  have hw := fun d (hd : d ∈ tables_1) => atoms_spec (ws := Jvm.Cond.code x code maxLocals ret :: tables_1) hat d (List.mem_cons_of_mem _ hd)
  have hfit : Fit s := fun {y c} hc i hi => by
    obtain ⟨ha, rfl⟩ := Array.getElem?_eq_some_iff.mp hc
    have q := List.all_eq_true.mp ((Array.all_eq_true_iff_forall_mem.mp hF) _ (Array.getElem_mem ha)) i (List.mem_range.mpr hi)
    simpa [Array.getElem?_eq_getElem hi] using q
  obtain ⟨i0, ei0⟩ := is_v g1
  obtain rfl : w0 = (.int i0) := Option.some.inj ei0
  obtain ⟨i1, ei1⟩ := is_v g2
  obtain rfl : w1 = (.int i1) := Option.some.inj ei1
  obtain ⟨i2, ei2⟩ := isL_v g3
  obtain rfl : w2 = (.long i2) := Option.some.inj ei2
  obtain ⟨i3, ei3⟩ := is_v r3
  obtain rfl : w3 = (.int i3) := Option.some.inj ei3
  have hr0 := Cond.before_iff.mp (show rest_1_c.before _ s = true from hrest)
  obtain ⟨u0, hr1⟩ := and_e hr0
  obtain ⟨u1, hr2⟩ := and_e hr1
  obtain ⟨u2, hr3⟩ := and_e hr2
  obtain ⟨u3, hr4⟩ := and_e hr3
  obtain ⟨u4, hr5⟩ := and_e hr4
  obtain ⟨u5, hr6⟩ := and_e hr5
  obtain ⟨u6, hr7⟩ := and_e hr6
  obtain ⟨u7, hr8⟩ := and_e hr7
  obtain ⟨u8, hr9⟩ := and_e hr8
  obtain ⟨u9, hr10⟩ := and_e hr9
  obtain ⟨u10, hr11⟩ := and_e hr10
  obtain ⟨u11, hr12⟩ := and_e hr11
  obtain ⟨u12, hr13⟩ := and_e hr12
  obtain ⟨u13, hr14⟩ := and_e hr13
  obtain ⟨u14, hr15⟩ := and_e hr14
  obtain ⟨u15, hr16⟩ := and_e hr15
  obtain ⟨u16, hr17⟩ := and_e hr16
  obtain ⟨u17, hr18⟩ := and_e hr17
  obtain ⟨u18, hr19⟩ := and_e hr18
  obtain ⟨u19, hr20⟩ := and_e hr19
  obtain ⟨wC, evC⟩ := is_v u1
  have hSC := Sta.start evC (Or.inl (Cond.before_iff.mpr u0))
  have hwC : ¬ wC = (0 : Int32) := gotF (Cond.eq_ints evC (Term.int_eval 0)) (not_v u2)
  have hcw : Jvm.Lit.compactW.before _ s = true := Cond.before_iff.mpr u2
  obtain ⟨fm, evF, hfm⟩ := isR_v u8
  have hFm := Sta.start evF (Or.inl (Cond.before_iff.mpr u7))
  obtain ⟨dO, evO, hAO⟩ := own_dig (f := own_d1) u12 u13 u14 (hw _ (own_w 3 rfl)) (fun idx => by simp only [Term.eval]) (fun r hr => by show _ = some (Value.int (Int32.ofNat (48 + r % 10))); rw [← Jvm.Free.SBG.ones_num r hr]; rfl) (fun r hr => own_fd1 r)
  have hSO := Sta.start evO (Or.inl (Cond.before_iff.mpr u11))
  obtain ⟨dX, evX, hAX⟩ := own_dig (f := own_d2) u17 u18 u19 (hw _ (own_w 3 rfl)) (fun idx => by simp only [Term.eval]) (fun r hr => by show _ = some (Value.int (Int32.ofNat (48 + r / 10))); rw [← Jvm.Free.SBG.tens_num r hr]; rfl) (fun r hr => own_fd2 hr)
  have hSX := Sta.start evX (Or.inl (Cond.before_iff.mpr u16))
  obtain ⟨n, o, h1, h2, h3, _, L, rfl, ⟨rfl, N⟩, -, hq⟩ := rm0 l s _ hw tables_1 i0 i1 i2 i3 wC fm dO dX s.heap s.heap.size (Nat.le_refl _) hSC hwC hfm hFm hSO hSX hAO hAX p e ha hc hk s m _ below hf ((Spec.applies_iff_loose hf).mp happ).1 ⟨rfl, State.Warmed39.refl s, rfl, CHv.start (own_EW hw) (show ∀ p ∈ consts_1, Jvm.Lit.constHeld s p.1 p.2 from hcalls.1) hcw (hw _ (own_w 3 rfl)) (hw _ (own_w 2 rfl))⟩ trivial
  refine ⟨n, _, h1, h2, h3, hpost _ _ _ _ _ _ ⟨Cond.after_iff.mpr rfl, Cond.after_iff.mpr (eq_i res_at (Term.int_eval (1)) rfl), trivial⟩ ⟨hq.1, hq.2.1, hq.2.2.1, (hq.2.2.2.sift fun y hy => Or.inr (N y hy)).mono (by decide) (by decide)⟩⟩
theorem main_1_1 : Claimed_1_1 := comes_1 fun _ _ _ _ _ _ h hF => ⟨h.1, hF⟩
theorem main_1_2 : Claimed_1_2 := comes_1 fun _ _ _ _ _ _ h hF => ⟨h.2.1, hF⟩
end Jvm.Pilot.@@N@@
namespace Jvm.Pilot.@@N@@
open Jvm Jvm.ClassFile Sem Op Lib Jvm.Free Jvm.Stand Jvm.Pilot.@@N@@.Jvm.D
/-! MADE BY PROGRAM (witnessworld.py) out of the Statement's table words and the real class files: 30 classes; the members and pool entries that the words name. The judged class is class 1, her method 1. -/
namespace start1
open Jvm.ClassFile
def u (s : String) : CpInfo := .utf8 (stringToUtf16 s)
/-- a pool by its gaps: so many unusable entries, then the entry; so many at the end -/
def gap : Nat → List CpInfo → List CpInfo
  | 0, r => r
  | n + 1, r => .unusable :: gap n r
def poolList (es : List (Nat × CpInfo)) (last : Nat) : List CpInfo := es.foldr (fun e r => gap e.1 (e.2 :: r)) (gap last [])
def pool (es : List (Nat × CpInfo)) (last : Nat) : Array CpInfo := ⟨poolList es last⟩
def fileOf (pool : Array CpInfo) (this : Nat) (attrs : Array Attribute := #[]) (ms : Array MethodInfo := #[]) (fl : Nat := 33) (sup : Nat := 0) (ifs : Array Nat := #[]) (fds : Array FieldInfo := #[]) : ClassFile where
  minorVersion := 0
  majorVersion := 65
  constantPool := pool
  accessFlags := fl
  thisClass := this
  superClass := sup
  interfaces := ifs
  fields := fds
  methods := ms
  attributes := attrs
def plain (name : String) (sup : Option ClassId) : Class where
  name := name
  kind := .ordinary
  loader := none
  accessFlags := 33
  super := sup
  interfaces := #[]
  cf := none
  fields := #[]
  methods := #[]
  instanceTypes := #[]
  staticTypes := #[]
  resolved := #[]
  callSites := []
  init := .initialized
  statics := none
  mirror := none

def pool0 : Array CpInfo := pool [(5, u "<init>"), (0, u "()V"), (1, .class_ 10), (1, u "java/lang/Object"), (85, u "clone"), (0, u "()Ljava/lang/Object;")] 26

def k0c0 : Code := { maxStack := 0, maxLocals := 1, code := object_method_1_code, exceptionTable := #[], attributes := #[] }
def k0m0 : Method := { name := "<init>", desc := "()V", sig := { parameters := [], returnType := none }, accessFlags := 1, code := some k0c0 }
def k0m1 : Method := { name := "clone", desc := "()Ljava/lang/Object;", sig := { parameters := [], returnType := some (.object "java/lang/Object") }, accessFlags := 260, code := none }
/-- java/lang/Object -/
def k0 : Class := { plain "java/lang/Object" none with
  accessFlags := 33
  interfaces := #[]
  cf := some (fileOf pool0 8 #[] #[{ accessFlags := 1, nameIndex := 5, descriptorIndex := 6, attributes := #[] }, { accessFlags := 260, nameIndex := 96, descriptorIndex := 97, attributes := #[] }] 33 0 #[] #[])
  fields := #[]
  methods := #[k0m0, k0m1]
  instanceTypes := #[]
  staticTypes := #[]
  resolved := Array.replicate 124 none
  statics := none }

def pool1 : Array CpInfo := pool [(2, .class_ 4), (1, u "java/lang/Object"), (0, u "<init>"), (0, u "()V"), (0, .string 8), (0, u ""), (0, .methodref 10 11), (0, .class_ 12), (0, .nameAndType 13 14), (0, u "java/lang/String"), (0, u "valueOf"), (0, u "(C)Ljava/lang/String;"), (0, .methodref 10 16), (0, .nameAndType 5 17), (0, u "([C)V"), (0, .class_ 19), (0, u "com/example/campofelice/campofelice/Message"), (0, .methodref 18 21), (0, .nameAndType 5 22), (0, u "(Ljava/lang/String;[BIJ)V"), (0, .methodref 18 24), (0, .nameAndType 25 26), (0, u "toString"), (0, u "()Ljava/lang/String;"), (0, .string 28), (0, u "message "), (0, .methodref 30 31), (0, .class_ 32), (0, .nameAndType 33 34), (0, u "com/example/campofelice/campofelice/MessageToStringPinLaw"), (0, u "lit"), (0, u "(Ljava/lang/String;ILjava/lang/String;)I"), (0, .string 36), (0, u " (attempt "), (0, .methodref 30 38), (0, .nameAndType 39 40), (0, u "num"), (0, u "(Ljava/lang/String;IJ)I"), (0, .string 42), (0, u ", due "), (0, .string 44), (0, u ", "), (0, .string 46), (0, u " bytes)"), (0, .methodref 10 48), (0, .nameAndType 49 50), (0, u "length"), (0, u "()I"), (0, .methodref 10 52), (0, .nameAndType 53 54), (0, u "charAt"), (0, u "(I)C"), (0, .methodref 30 56), (0, .nameAndType 57 58), (0, u "c"), (0, u "(Ljava/lang/String;ILjava/lang/String;I)I"), (0, .long 10), (1, .methodref 62 63), (0, .class_ 64), (0, .nameAndType 65 66), (0, u "java/lang/Math"), (0, u "abs"), (0, u "(J)J"), (0, .long 1000000000000000000), (1, .methodref 30 70), (0, .nameAndType 71 72), (0, u "d"), (0, u "(Ljava/lang/String;IJJ)I"), (0, .long 100000000000000000), (1, .long 10000000000000000), (1, .long 1000000000000000), (1, .long 100000000000000), (1, .long 10000000000000), (1, .long 1000000000000), (1, .long 100000000000), (1, .long 10000000000), (1, .long 1000000000), (1, .long 100000000), (1, .long 10000000), (1, .long 1000000), (1, .long 100000), (1, .long 10000), (1, .long 1000), (1, .long 100), (3, u "law"), (0, u "(IIJI)Z")] 5

def k1m0 : Method := { name := "<init>", desc := "()V", sig := { parameters := [], returnType := none }, accessFlags := 1, code := none }
def k1c1 : Code := { maxStack := 7, maxLocals := 14, code := code, exceptionTable := #[], attributes := #[] }
def k1m1 : Method := { name := "law", desc := "(IIJI)Z", sig := { parameters := [.int, .int, .long, .int], returnType := some .boolean }, accessFlags := 9, code := some k1c1 }
def k1c2 : Code := { maxStack := 3, maxLocals := 4, code := method_3_code, exceptionTable := #[], attributes := #[] }
def k1m2 : Method := { name := "c", desc := "(Ljava/lang/String;ILjava/lang/String;I)I", sig := { parameters := [(.object "java/lang/String"), .int, (.object "java/lang/String"), .int], returnType := some .int }, accessFlags := 10, code := some k1c2 }
def k1c3 : Code := { maxStack := 4, maxLocals := 3, code := method_4_code, exceptionTable := #[], attributes := #[] }
def k1m3 : Method := { name := "lit", desc := "(Ljava/lang/String;ILjava/lang/String;)I", sig := { parameters := [(.object "java/lang/String"), .int, (.object "java/lang/String")], returnType := some .int }, accessFlags := 10, code := some k1c3 }
def k1c4 : Code := { maxStack := 4, maxLocals := 9, code := method_5_code, exceptionTable := #[], attributes := #[] }
def k1m4 : Method := { name := "d", desc := "(Ljava/lang/String;IJJ)I", sig := { parameters := [(.object "java/lang/String"), .int, .long, .long], returnType := some .int }, accessFlags := 10, code := some k1c4 }
def k1c5 : Code := { maxStack := 6, maxLocals := 4, code := method_6_code, exceptionTable := #[], attributes := #[] }
def k1m5 : Method := { name := "num", desc := "(Ljava/lang/String;IJ)I", sig := { parameters := [(.object "java/lang/String"), .int, .long], returnType := some .int }, accessFlags := 10, code := some k1c5 }
/-- com/example/campofelice/campofelice/MessageToStringPinLaw -/
def k1 : Class := { plain "com/example/campofelice/campofelice/MessageToStringPinLaw" (some 0) with
  accessFlags := 49
  interfaces := #[]
  cf := some (fileOf pool1 30 #[] #[{ accessFlags := 1, nameIndex := 5, descriptorIndex := 6, attributes := #[] }, { accessFlags := 9, nameIndex := 107, descriptorIndex := 108, attributes := #[] }, { accessFlags := 10, nameIndex := 57, descriptorIndex := 58, attributes := #[] }, { accessFlags := 10, nameIndex := 33, descriptorIndex := 34, attributes := #[] }, { accessFlags := 10, nameIndex := 71, descriptorIndex := 72, attributes := #[] }, { accessFlags := 10, nameIndex := 39, descriptorIndex := 40, attributes := #[] }] 49 2 #[] #[])
  fields := #[]
  methods := #[k1m0, k1m1, k1m2, k1m3, k1m4, k1m5]
  instanceTypes := #[]
  staticTypes := #[]
  resolved := Array.replicate 114 none
  statics := none }

def pool2 : Array CpInfo := pool [(1, .class_ 2), (0, u "java/io/Serializable"), (0, .class_ 4), (0, u "java/lang/Object")] 2

/-- java/io/Serializable -/
def k2 : Class := { plain "java/io/Serializable" (some 0) with
  accessFlags := 1537
  interfaces := #[]
  cf := some (fileOf pool2 1 #[] #[] 1537 3 #[] #[])
  fields := #[]
  methods := #[]
  instanceTypes := #[]
  staticTypes := #[]
  resolved := Array.replicate 7 none
  statics := none }

def pool3 : Array CpInfo := pool [(1, .class_ 2), (0, u "java/lang/Comparable"), (0, .class_ 4), (0, u "java/lang/Object")] 7

/-- java/lang/Comparable -/
def k3 : Class := { plain "java/lang/Comparable" (some 0) with
  accessFlags := 1537
  interfaces := #[]
  cf := some (fileOf pool3 1 #[] #[] 1537 3 #[] #[])
  fields := #[]
  methods := #[]
  instanceTypes := #[]
  staticTypes := #[]
  resolved := Array.replicate 12 none
  statics := none }

def pool4 : Array CpInfo := pool [(2, .class_ 4), (1, u "java/lang/CharSequence"), (42, .class_ 48), (0, u "java/lang/CharSequence$1CodePointIterator"), (10, .class_ 60), (0, u "java/lang/CharSequence$1CharIterator"), (5, .class_ 67), (0, u "java/lang/Object")] 63

/-- java/lang/CharSequence -/
def k4 : Class := { plain "java/lang/CharSequence" (some 0) with
  accessFlags := 1537
  interfaces := #[]
  cf := some (fileOf pool4 2 #[.nestMembers #[47, 59]] #[] 1537 66 #[] #[])
  fields := #[]
  methods := #[]
  instanceTypes := #[]
  staticTypes := #[]
  resolved := Array.replicate 131 none
  statics := none }

def pool5 : Array CpInfo := pool [(1, .class_ 2), (0, u "java/lang/constant/Constable"), (0, .class_ 4), (0, u "java/lang/Object")] 6

/-- java/lang/constant/Constable -/
def k5 : Class := { plain "java/lang/constant/Constable" (some 0) with
  accessFlags := 1537
  interfaces := #[]
  cf := some (fileOf pool5 1 #[] #[] 1537 3 #[] #[])
  fields := #[]
  methods := #[]
  instanceTypes := #[]
  staticTypes := #[]
  resolved := Array.replicate 11 none
  statics := none }

def pool6 : Array CpInfo := pool [(1, .class_ 2), (0, u "java/lang/constant/ConstantDesc"), (0, .class_ 4), (0, u "java/lang/Object")] 32

/-- java/lang/constant/ConstantDesc -/
def k6 : Class := { plain "java/lang/constant/ConstantDesc" (some 0) with
  accessFlags := 1537
  interfaces := #[]
  cf := some (fileOf pool6 1 #[] #[] 1537 3 #[] #[])
  fields := #[]
  methods := #[]
  instanceTypes := #[]
  staticTypes := #[]
  resolved := Array.replicate 37 none
  statics := none }

def pool7 : Array CpInfo := pool [(1, .methodref 2 3), (0, .class_ 4), (0, .nameAndType 5 6), (0, u "java/lang/Object"), (0, u "<init>"), (0, u "()V"), (2, .fieldref 10 11), (0, .class_ 12), (0, .nameAndType 13 14), (0, u "java/lang/String"), (0, u "value"), (0, u "[B"), (0, .fieldref 10 16), (0, .nameAndType 17 18), (0, u "coder"), (0, u "B"), (2, u "hash"), (0, u "I"), (2, u "hashIsZero"), (0, u "Z"), (0, .methodref 10 28), (0, .nameAndType 5 29), (0, u "([CIILjava/lang/Void;)V"), (8, .fieldref 10 39), (0, .nameAndType 40 26), (0, u "COMPACT_STRINGS"), (1, .class_ 44), (1, u "java/lang/StringUTF16"), (0, u "compress"), (1, .methodref 42 48), (0, .nameAndType 49 50), (0, u "coderFromArrayLen"), (0, u "([BI)B"), (2, u "toBytes"), (0, .methodref 55 56), (0, .class_ 57), (0, .nameAndType 58 59), (0, u "java/util/Arrays"), (0, u "copyOfRange"), (0, u "([BII)[B"), (47, .class_ 109), (1, u "java/lang/StringLatin1"), (32, u "()Z"), (34, .methodref 42 178), (0, .nameAndType 45 179), (0, u "([CII)[B"), (13, .class_ 195), (1, u "java/lang/System"), (13, .methodref 10 210), (0, .nameAndType 5 211), (0, u "([BB)V"), (0, .methodref 193 213), (0, .nameAndType 214 215), (0, u "arraycopy"), (0, u "(Ljava/lang/Object;ILjava/lang/Object;II)V"), (118, u "()I"), (0, .methodref 10 336), (0, .nameAndType 17 337), (0, u "()B"), (2, u "()[B"), (22, u "([BI)C"), (5, u "(C)Z"), (21, u "(II)V"), (35, u "(I)C"), (61, .methodref 10 490), (0, .nameAndType 5 491), (0, u "(Ljava/lang/AbstractStringBuilder;Ljava/lang/Void;)V"), (0, .methodref 10 493), (0, .nameAndType 494 142), (0, u "isLatin1"), (0, .methodref 107 496), (0, .nameAndType 497 363), (0, u "charAt"), (3, u "checkIndex"), (4, .nameAndType 507 334), (0, u "length"), (24, u "getBytes"), (16, .methodref 550 506), (0, .class_ 551), (0, u "java/lang/AbstractStringBuilder"), (0, .methodref 550 553), (0, .nameAndType 554 340), (0, u "getValue"), (20, .class_ 576), (0, u "java/lang/CharSequence"), (22, u "CASE_INSENSITIVE_ORDER"), (0, u "Ljava/util/Comparator;"), (181, u "valueOf"), (0, u "(C)Ljava/lang/String;"), (37, u "([BIB)V"), (188, u "([C)V"), (4, .methodref 107 1016), (0, .nameAndType 1017 369), (0, u "canEncode"), (0, .methodref 107 1019), (0, .nameAndType 53 1020), (0, u "(C)[B"), (26, .methodref 550 493), (5, .fieldref 1054 1055), (0, .class_ 1056), (0, .nameAndType 1057 1058), (0, u "jdk/internal/util/Preconditions"), (0, u "SIOOBE_FORMATTER"), (0, u "Ljava/util/function/BiFunction;"), (0, .methodref 1054 1060), (0, .nameAndType 501 1061), (0, u "(IILjava/util/function/BiFunction;)I"), (39, u "serialPersistentFields"), (0, u "[Ljava/io/ObjectStreamField;"), (0, .class_ 1104), (0, u "java/lang/String$CaseInsensitiveComparator"), (1, .class_ 1107), (0, u "java/io/Serializable"), (0, .class_ 1109), (0, u "java/lang/Comparable"), (0, .class_ 1111), (0, u "java/lang/constant/Constable"), (0, .class_ 1113), (0, u "java/lang/constant/ConstantDesc"), (2, u "serialVersionUID"), (0, u "J"), (3, u "REPL"), (0, u "C"), (2, u "LATIN1"), (1, u "UTF16"), (105, u "(Ljava/lang/StringBuilder;)V")] 217

def k7m0 : Method := { name := "<init>", desc := "()V", sig := { parameters := [], returnType := none }, accessFlags := 1, code := none }
def k7c1 : Code := { maxStack := 5, maxLocals := 2, code := jdk_42_method_3_code, exceptionTable := #[], attributes := #[] }
def k7m1 : Method := { name := "<init>", desc := "([C)V", sig := { parameters := [(.array .char)], returnType := none }, accessFlags := 1, code := some k7c1 }
def k7c2 : Code := { maxStack := 3, maxLocals := 2, code := jdk_42_method_53_code, exceptionTable := #[], attributes := #[] }
def k7m2 : Method := { name := "<init>", desc := "(Ljava/lang/StringBuilder;)V", sig := { parameters := [(.object "java/lang/StringBuilder")], returnType := none }, accessFlags := 1, code := some k7c2 }
def k7c3 : Code := { maxStack := 2, maxLocals := 1, code := jdk_42_method_54_code, exceptionTable := #[], attributes := #[] }
def k7m3 : Method := { name := "length", desc := "()I", sig := { parameters := [], returnType := some .int }, accessFlags := 1, code := some k7c3 }
def k7c4 : Code := { maxStack := 2, maxLocals := 2, code := jdk_42_method_56_code, exceptionTable := #[], attributes := #[] }
def k7m4 : Method := { name := "charAt", desc := "(I)C", sig := { parameters := [.int], returnType := some .char }, accessFlags := 1, code := some k7c4 }
def k7c5 : Code := { maxStack := 4, maxLocals := 1, code := jdk_42_method_139_code, exceptionTable := #[], attributes := #[] }
def k7m5 : Method := { name := "valueOf", desc := "(C)Ljava/lang/String;", sig := { parameters := [.char], returnType := some (.object "java/lang/String") }, accessFlags := 9, code := some k7c5 }
def k7c6 : Code := { maxStack := 5, maxLocals := 4, code := jdk_42_method_147_code, exceptionTable := #[], attributes := #[] }
def k7m6 : Method := { name := "getBytes", desc := "([BIB)V", sig := { parameters := [(.array .byte), .int, .byte], returnType := none }, accessFlags := 0, code := some k7c6 }
def k7c7 : Code := { maxStack := 4, maxLocals := 6, code := jdk_42_method_149_code, exceptionTable := #[], attributes := #[] }
def k7m7 : Method := { name := "<init>", desc := "([CIILjava/lang/Void;)V", sig := { parameters := [(.array .char), .int, .int, (.object "java/lang/Void")], returnType := none }, accessFlags := 2, code := some k7c7 }
def k7c8 : Code := { maxStack := 5, maxLocals := 5, code := jdk_42_method_150_code, exceptionTable := #[], attributes := #[] }
def k7m8 : Method := { name := "<init>", desc := "(Ljava/lang/AbstractStringBuilder;Ljava/lang/Void;)V", sig := { parameters := [(.object "java/lang/AbstractStringBuilder"), (.object "java/lang/Void")], returnType := none }, accessFlags := 0, code := some k7c8 }
def k7c9 : Code := { maxStack := 2, maxLocals := 3, code := jdk_42_method_151_code, exceptionTable := #[], attributes := #[] }
def k7m9 : Method := { name := "<init>", desc := "([BB)V", sig := { parameters := [(.array .byte), .byte], returnType := none }, accessFlags := 0, code := some k7c9 }
def k7c10 : Code := { maxStack := 1, maxLocals := 1, code := jdk_42_method_152_code, exceptionTable := #[], attributes := #[] }
def k7m10 : Method := { name := "coder", desc := "()B", sig := { parameters := [], returnType := some .byte }, accessFlags := 0, code := some k7c10 }
def k7c11 : Code := { maxStack := 1, maxLocals := 1, code := jdk_42_method_154_code, exceptionTable := #[], attributes := #[] }
def k7m11 : Method := { name := "isLatin1", desc := "()Z", sig := { parameters := [], returnType := some .boolean }, accessFlags := 0, code := some k7c11 }
def k7c12 : Code := { maxStack := 3, maxLocals := 2, code := jdk_42_method_155_code, exceptionTable := #[], attributes := #[] }
def k7m12 : Method := { name := "checkIndex", desc := "(II)V", sig := { parameters := [.int, .int], returnType := none }, accessFlags := 8, code := some k7c12 }
/-- java/lang/String -/
def k7 : Class := { plain "java/lang/String" (some 0) with
  accessFlags := 49
  interfaces := #[2, 3, 4, 5, 6]
  cf := some (fileOf pool7 10 #[.nestMembers #[1103]] #[{ accessFlags := 1, nameIndex := 5, descriptorIndex := 6, attributes := #[] }, { accessFlags := 1, nameIndex := 5, descriptorIndex := 1010, attributes := #[] }, { accessFlags := 1, nameIndex := 5, descriptorIndex := 1233, attributes := #[] }, { accessFlags := 1, nameIndex := 507, descriptorIndex := 334, attributes := #[] }, { accessFlags := 1, nameIndex := 497, descriptorIndex := 427, attributes := #[] }, { accessFlags := 9, nameIndex := 782, descriptorIndex := 783, attributes := #[] }, { accessFlags := 0, nameIndex := 532, descriptorIndex := 821, attributes := #[] }, { accessFlags := 2, nameIndex := 5, descriptorIndex := 29, attributes := #[] }, { accessFlags := 0, nameIndex := 5, descriptorIndex := 491, attributes := #[] }, { accessFlags := 0, nameIndex := 5, descriptorIndex := 211, attributes := #[] }, { accessFlags := 0, nameIndex := 17, descriptorIndex := 337, attributes := #[] }, { accessFlags := 0, nameIndex := 494, descriptorIndex := 142, attributes := #[] }, { accessFlags := 8, nameIndex := 501, descriptorIndex := 391, attributes := #[] }] 49 2 #[1106, 1108, 575, 1110, 1112] #[{ accessFlags := 18, nameIndex := 13, descriptorIndex := 14, attributes := #[] }, { accessFlags := 18, nameIndex := 17, descriptorIndex := 18, attributes := #[] }, { accessFlags := 2, nameIndex := 21, descriptorIndex := 22, attributes := #[] }, { accessFlags := 2, nameIndex := 25, descriptorIndex := 26, attributes := #[] }, { accessFlags := 26, nameIndex := 1116, descriptorIndex := 1117, attributes := #[] }, { accessFlags := 24, nameIndex := 40, descriptorIndex := 26, attributes := #[] }, { accessFlags := 26, nameIndex := 1101, descriptorIndex := 1102, attributes := #[] }, { accessFlags := 26, nameIndex := 1121, descriptorIndex := 1122, attributes := #[] }, { accessFlags := 25, nameIndex := 599, descriptorIndex := 600, attributes := #[] }, { accessFlags := 24, nameIndex := 1125, descriptorIndex := 18, attributes := #[] }, { accessFlags := 24, nameIndex := 1127, descriptorIndex := 18, attributes := #[] }])
  fields := #[{ name := "value", type := (.array .byte), accessFlags := 18, slot := 0, constantValue := 0 }, { name := "coder", type := .byte, accessFlags := 18, slot := 1, constantValue := 0 }, { name := "hash", type := .int, accessFlags := 2, slot := 2, constantValue := 0 }, { name := "hashIsZero", type := .boolean, accessFlags := 2, slot := 3, constantValue := 0 }, { name := "serialVersionUID", type := .long, accessFlags := 26, slot := 0, constantValue := 0 }, { name := "COMPACT_STRINGS", type := .boolean, accessFlags := 24, slot := 1, constantValue := 0 }, { name := "serialPersistentFields", type := (.array (.object "java/io/ObjectStreamField")), accessFlags := 26, slot := 2, constantValue := 0 }, { name := "REPL", type := .char, accessFlags := 26, slot := 3, constantValue := 0 }, { name := "CASE_INSENSITIVE_ORDER", type := (.object "java/util/Comparator"), accessFlags := 25, slot := 4, constantValue := 0 }, { name := "LATIN1", type := .byte, accessFlags := 24, slot := 5, constantValue := 0 }, { name := "UTF16", type := .byte, accessFlags := 24, slot := 6, constantValue := 0 }]
  methods := #[k7m0, k7m1, k7m2, k7m3, k7m4, k7m5, k7m6, k7m7, k7m8, k7m9, k7m10, k7m11, k7m12]
  instanceTypes := #[(.array .byte), .byte, .int, .boolean]
  staticTypes := #[.long, .boolean, (.array (.object "java/io/ObjectStreamField")), .char, (.object "java/util/Comparator"), .byte, .byte]
  resolved := Array.replicate 1451 none
  statics := some 0 }

def pool8 : Array CpInfo := pool [(1, .methodref 2 3), (0, .class_ 4), (0, .nameAndType 5 6), (0, u "java/lang/Object"), (0, u "<init>"), (0, u "()V"), (0, .string 8), (0, u "id"), (0, .methodref 10 11), (0, .class_ 12), (0, .nameAndType 13 14), (0, u "java/util/Objects"), (0, u "requireNonNull"), (0, u "(Ljava/lang/Object;Ljava/lang/String;)Ljava/lang/Object;"), (0, .class_ 16), (0, u "java/lang/String"), (0, .fieldref 18 19), (0, .class_ 20), (0, .nameAndType 21 22), (0, u "com/example/campofelice/campofelice/Message"), (0, u "mId"), (0, u "Ljava/lang/String;"), (0, .string 24), (0, u "body"), (0, .class_ 26), (0, u "[B"), (0, .methodref 25 28), (0, .nameAndType 29 30), (0, u "clone"), (0, u "()Ljava/lang/Object;"), (0, .fieldref 18 32), (0, .nameAndType 33 26), (0, u "mBody"), (0, .fieldref 18 35), (0, .nameAndType 36 37), (0, u "mAttempt"), (0, u "I"), (0, .fieldref 18 39), (0, .nameAndType 40 41), (0, u "mDueTime"), (0, u "J"), (0, .class_ 43), (0, u "java/lang/StringBuilder"), (0, .methodref 42 3), (0, .string 46), (0, u "message "), (0, .methodref 42 48), (0, .nameAndType 49 50), (0, u "append"), (0, u "(Ljava/lang/String;)Ljava/lang/StringBuilder;"), (0, .string 52), (0, u " (attempt "), (0, .methodref 42 54), (0, .nameAndType 49 55), (0, u "(I)Ljava/lang/StringBuilder;"), (0, .string 57), (0, u ", due "), (0, .methodref 42 59), (0, .nameAndType 49 60), (0, u "(J)Ljava/lang/StringBuilder;"), (0, .string 62), (0, u ", "), (0, .string 64), (0, u " bytes)"), (0, .methodref 42 66), (0, .nameAndType 67 68), (0, u "toString"), (0, u "()Ljava/lang/String;"), (0, u "(Ljava/lang/String;[BIJ)V")] 9

def k8c0 : Code := { maxStack := 3, maxLocals := 6, code := prog_13_method_1_code, exceptionTable := #[], attributes := #[] }
def k8m0 : Method := { name := "<init>", desc := "(Ljava/lang/String;[BIJ)V", sig := { parameters := [(.object "java/lang/String"), (.array .byte), .int, .long], returnType := none }, accessFlags := 1, code := some k8c0 }
def k8c1 : Code := { maxStack := 3, maxLocals := 1, code := prog_13_method_6_code, exceptionTable := #[], attributes := #[] }
def k8m1 : Method := { name := "toString", desc := "()Ljava/lang/String;", sig := { parameters := [], returnType := some (.object "java/lang/String") }, accessFlags := 1, code := some k8c1 }
/-- com/example/campofelice/campofelice/Message -/
def k8 : Class := { plain "com/example/campofelice/campofelice/Message" (some 0) with
  accessFlags := 33
  interfaces := #[]
  cf := some (fileOf pool8 18 #[] #[{ accessFlags := 1, nameIndex := 5, descriptorIndex := 69, attributes := #[] }, { accessFlags := 1, nameIndex := 67, descriptorIndex := 68, attributes := #[] }] 33 2 #[] #[{ accessFlags := 18, nameIndex := 21, descriptorIndex := 22, attributes := #[] }, { accessFlags := 18, nameIndex := 33, descriptorIndex := 26, attributes := #[] }, { accessFlags := 18, nameIndex := 36, descriptorIndex := 37, attributes := #[] }, { accessFlags := 18, nameIndex := 40, descriptorIndex := 41, attributes := #[] }])
  fields := #[{ name := "mId", type := (.object "java/lang/String"), accessFlags := 18, slot := 0, constantValue := 0 }, { name := "mBody", type := (.array .byte), accessFlags := 18, slot := 1, constantValue := 0 }, { name := "mAttempt", type := .int, accessFlags := 18, slot := 2, constantValue := 0 }, { name := "mDueTime", type := .long, accessFlags := 18, slot := 3, constantValue := 0 }]
  methods := #[k8m0, k8m1]
  instanceTypes := #[(.object "java/lang/String"), (.array .byte), .int, .long]
  staticTypes := #[]
  resolved := Array.replicate 79 none
  statics := none }

def pool9 : Array CpInfo := pool [(2, .class_ 4), (1, u "java/lang/Object"), (0, u "<init>"), (0, u "()V"), (35, .class_ 44), (1, u "java/util/Objects"), (0, u "requireNonNull"), (48, u "(Ljava/lang/Object;Ljava/lang/String;)Ljava/lang/Object;")] 89

def k9m0 : Method := { name := "<init>", desc := "()V", sig := { parameters := [], returnType := none }, accessFlags := 2, code := none }
def k9c1 : Code := { maxStack := 3, maxLocals := 2, code := jdk_31_method_11_code, exceptionTable := #[], attributes := #[] }
def k9m1 : Method := { name := "requireNonNull", desc := "(Ljava/lang/Object;Ljava/lang/String;)Ljava/lang/Object;", sig := { parameters := [(.object "java/lang/Object"), (.object "java/lang/String")], returnType := some (.object "java/lang/Object") }, accessFlags := 9, code := some k9c1 }
/-- java/util/Objects -/
def k9 : Class := { plain "java/util/Objects" (some 0) with
  accessFlags := 49
  interfaces := #[]
  cf := some (fileOf pool9 42 #[] #[{ accessFlags := 2, nameIndex := 5, descriptorIndex := 6, attributes := #[] }, { accessFlags := 9, nameIndex := 45, descriptorIndex := 94, attributes := #[] }] 49 2 #[] #[])
  fields := #[]
  methods := #[k9m0, k9m1]
  instanceTypes := #[]
  staticTypes := #[]
  resolved := Array.replicate 184 none
  statics := none }

def pool10 : Array CpInfo := pool [(1, .class_ 2), (0, u "java/lang/Cloneable"), (0, .class_ 4), (0, u "java/lang/Object")] 2

/-- java/lang/Cloneable -/
def k10 : Class := { plain "java/lang/Cloneable" (some 0) with
  accessFlags := 1537
  interfaces := #[]
  cf := some (fileOf pool10 1 #[] #[] 1537 3 #[] #[])
  fields := #[]
  methods := #[]
  instanceTypes := #[]
  staticTypes := #[]
  resolved := Array.replicate 7 none
  statics := none }

def pool11 : Array CpInfo := pool [(1, .class_ 2), (0, u "java/lang/Appendable"), (0, .class_ 4), (0, u "java/lang/Object")] 9

/-- java/lang/Appendable -/
def k11 : Class := { plain "java/lang/Appendable" (some 0) with
  accessFlags := 1537
  interfaces := #[]
  cf := some (fileOf pool11 1 #[] #[] 1537 3 #[] #[])
  fields := #[]
  methods := #[]
  instanceTypes := #[]
  staticTypes := #[]
  resolved := Array.replicate 14 none
  statics := none }

def pool12 : Array CpInfo := pool [(1, .class_ 2), (0, u "java/lang/String"), (0, .methodref 4 5), (0, .class_ 6), (0, .nameAndType 7 8), (0, u "java/lang/Object"), (0, u "<init>"), (0, u "()V"), (1, .class_ 12), (1, u "java/lang/AbstractStringBuilder"), (0, u "EMPTYVALUE"), (0, u "[B"), (0, .fieldref 10 16), (0, .nameAndType 17 14), (0, u "value"), (0, .fieldref 1 19), (0, .nameAndType 20 21), (0, u "COMPACT_STRINGS"), (0, u "Z"), (0, .fieldref 10 23), (0, .nameAndType 24 25), (0, u "coder"), (0, u "B"), (6, .methodref 1 33), (0, .nameAndType 34 35), (0, u "length"), (0, u "()I"), (0, .class_ 37), (0, u "java/lang/Integer"), (1, .integer 2147483647), (0, .methodref 1 41), (0, .nameAndType 24 42), (0, u "()B"), (2, u "append"), (0, u "(Ljava/lang/String;)Ljava/lang/AbstractStringBuilder;"), (1, .class_ 49), (0, u "java/lang/CharSequence"), (19, u "(Ljava/lang/String;)V"), (5, u "maybeLatin1"), (3, .fieldref 10 80), (0, .nameAndType 81 82), (0, u "count"), (0, u "I"), (0, .methodref 10 84), (0, .nameAndType 85 86), (0, u "isLatin1"), (0, u "()Z"), (13, .methodref 10 101), (0, .nameAndType 102 103), (0, u "ensureCapacityInternal"), (0, u "(I)V"), (0, .methodref 10 105), (0, .nameAndType 106 107), (0, u "newCapacity"), (0, u "(I)I"), (0, .methodref 109 110), (0, .class_ 111), (0, .nameAndType 112 113), (0, u "java/util/Arrays"), (0, u "copyOf"), (0, u "([BI)[B"), (0, .methodref 115 116), (0, .class_ 117), (0, .nameAndType 118 119), (0, u "jdk/internal/util/ArraysSupport"), (0, u "newLength"), (0, u "(III)I"), (68, u "getChars"), (19, .methodref 10 209), (0, .nameAndType 210 211), (0, u "putStringAt"), (0, u "(ILjava/lang/String;)V"), (5, u "inflateIfNeededFor"), (2, .nameAndType 221 222), (0, u "getBytes"), (0, u "([BIB)V"), (22, .methodref 36 246), (0, .nameAndType 247 107), (0, u "stringSize"), (0, .methodref 36 249), (0, .nameAndType 188 250), (0, u "(II[B)I"), (3, .methodref 255 256), (0, .class_ 257), (0, .nameAndType 247 258), (0, u "java/lang/Long"), (0, u "(J)I"), (0, .methodref 255 260), (0, .nameAndType 188 261), (0, u "(JI[B)I"), (135, .methodref 10 398), (0, .nameAndType 217 69), (0, .methodref 1 220), (3, u "()[B"), (40, .class_ 445), (0, u "java/lang/Appendable"), (65, u "(I)Ljava/lang/AbstractStringBuilder;"), (1, u "(J)Ljava/lang/AbstractStringBuilder;"), (38, u "getValue")] 56

def k12m0 : Method := { name := "<init>", desc := "()V", sig := { parameters := [], returnType := none }, accessFlags := 0, code := none }
def k12c1 : Code := { maxStack := 2, maxLocals := 2, code := jdk_68_method_2_code, exceptionTable := #[], attributes := #[] }
def k12m1 : Method := { name := "<init>", desc := "(I)V", sig := { parameters := [.int], returnType := none }, accessFlags := 0, code := some k12c1 }
def k12c2 : Code := { maxStack := 1, maxLocals := 1, code := jdk_68_method_6_code, exceptionTable := #[], attributes := #[] }
def k12m2 : Method := { name := "length", desc := "()I", sig := { parameters := [], returnType := some .int }, accessFlags := 1, code := some k12c2 }
def k12c3 : Code := { maxStack := 4, maxLocals := 3, code := jdk_68_method_9_code, exceptionTable := #[], attributes := #[] }
def k12m3 : Method := { name := "ensureCapacityInternal", desc := "(I)V", sig := { parameters := [.int], returnType := none }, accessFlags := 2, code := some k12c3 }
def k12c4 : Code := { maxStack := 5, maxLocals := 6, code := jdk_68_method_10_code, exceptionTable := #[], attributes := #[] }
def k12m4 : Method := { name := "newCapacity", desc := "(I)I", sig := { parameters := [.int], returnType := some .int }, accessFlags := 2, code := some k12c4 }
def k12c5 : Code := { maxStack := 3, maxLocals := 3, code := jdk_68_method_22_code, exceptionTable := #[], attributes := #[] }
def k12m5 : Method := { name := "append", desc := "(Ljava/lang/String;)Ljava/lang/AbstractStringBuilder;", sig := { parameters := [(.object "java/lang/String")], returnType := some (.object "java/lang/AbstractStringBuilder") }, accessFlags := 1, code := some k12c5 }
def k12c6 : Code := { maxStack := 4, maxLocals := 4, code := jdk_68_method_32_code, exceptionTable := #[], attributes := #[] }
def k12m6 : Method := { name := "append", desc := "(I)Ljava/lang/AbstractStringBuilder;", sig := { parameters := [.int], returnType := some (.object "java/lang/AbstractStringBuilder") }, accessFlags := 1, code := some k12c6 }
def k12c7 : Code := { maxStack := 5, maxLocals := 5, code := jdk_68_method_33_code, exceptionTable := #[], attributes := #[] }
def k12m7 : Method := { name := "append", desc := "(J)Ljava/lang/AbstractStringBuilder;", sig := { parameters := [.long], returnType := some (.object "java/lang/AbstractStringBuilder") }, accessFlags := 1, code := some k12c7 }
def k12c8 : Code := { maxStack := 1, maxLocals := 1, code := jdk_68_method_64_code, exceptionTable := #[], attributes := #[] }
def k12m8 : Method := { name := "getValue", desc := "()[B", sig := { parameters := [], returnType := some (.array .byte) }, accessFlags := 16, code := some k12c8 }
def k12c9 : Code := { maxStack := 1, maxLocals := 1, code := jdk_68_method_68_code, exceptionTable := #[], attributes := #[] }
def k12m9 : Method := { name := "isLatin1", desc := "()Z", sig := { parameters := [], returnType := some .boolean }, accessFlags := 16, code := some k12c9 }
def k12c10 : Code := { maxStack := 2, maxLocals := 2, code := jdk_68_method_71_code, exceptionTable := #[], attributes := #[] }
def k12m10 : Method := { name := "inflateIfNeededFor", desc := "(Ljava/lang/String;)V", sig := { parameters := [(.object "java/lang/String")], returnType := none }, accessFlags := 2, code := some k12c10 }
def k12c11 : Code := { maxStack := 4, maxLocals := 3, code := jdk_68_method_73_code, exceptionTable := #[], attributes := #[] }
def k12m11 : Method := { name := "putStringAt", desc := "(ILjava/lang/String;)V", sig := { parameters := [.int, (.object "java/lang/String")], returnType := none }, accessFlags := 2, code := some k12c11 }
/-- java/lang/AbstractStringBuilder -/
def k12 : Class := { plain "java/lang/AbstractStringBuilder" (some 0) with
  accessFlags := 1056
  interfaces := #[11, 4]
  cf := some (fileOf pool12 10 #[] #[{ accessFlags := 0, nameIndex := 7, descriptorIndex := 8, attributes := #[] }, { accessFlags := 0, nameIndex := 7, descriptorIndex := 103, attributes := #[] }, { accessFlags := 1, nameIndex := 34, descriptorIndex := 35, attributes := #[] }, { accessFlags := 2, nameIndex := 102, descriptorIndex := 103, attributes := #[] }, { accessFlags := 2, nameIndex := 106, descriptorIndex := 107, attributes := #[] }, { accessFlags := 1, nameIndex := 45, descriptorIndex := 46, attributes := #[] }, { accessFlags := 1, nameIndex := 45, descriptorIndex := 511, attributes := #[] }, { accessFlags := 1, nameIndex := 45, descriptorIndex := 513, attributes := #[] }, { accessFlags := 16, nameIndex := 552, descriptorIndex := 403, attributes := #[] }, { accessFlags := 16, nameIndex := 85, descriptorIndex := 86, attributes := #[] }, { accessFlags := 2, nameIndex := 217, descriptorIndex := 69, attributes := #[] }, { accessFlags := 2, nameIndex := 210, descriptorIndex := 211, attributes := #[] }] 1056 4 #[444, 48] #[{ accessFlags := 0, nameIndex := 17, descriptorIndex := 14, attributes := #[] }, { accessFlags := 0, nameIndex := 24, descriptorIndex := 25, attributes := #[] }, { accessFlags := 0, nameIndex := 75, descriptorIndex := 21, attributes := #[] }, { accessFlags := 0, nameIndex := 81, descriptorIndex := 82, attributes := #[] }, { accessFlags := 26, nameIndex := 13, descriptorIndex := 14, attributes := #[] }])
  fields := #[{ name := "value", type := (.array .byte), accessFlags := 0, slot := 0, constantValue := 0 }, { name := "coder", type := .byte, accessFlags := 0, slot := 1, constantValue := 0 }, { name := "maybeLatin1", type := .boolean, accessFlags := 0, slot := 2, constantValue := 0 }, { name := "count", type := .int, accessFlags := 0, slot := 3, constantValue := 0 }, { name := "EMPTYVALUE", type := (.array .byte), accessFlags := 26, slot := 0, constantValue := 0 }]
  methods := #[k12m0, k12m1, k12m2, k12m3, k12m4, k12m5, k12m6, k12m7, k12m8, k12m9, k12m10, k12m11]
  instanceTypes := #[(.array .byte), .byte, .boolean, .int]
  staticTypes := #[(.array .byte)]
  resolved := Array.replicate 609 none
  statics := none }

def pool13 : Array CpInfo := pool [(1, .methodref 2 3), (0, .class_ 4), (0, .nameAndType 5 6), (0, u "java/lang/AbstractStringBuilder"), (0, u "<init>"), (0, u "(I)V"), (11, .class_ 20), (1, u "java/lang/String"), (3, .class_ 26), (1, u "java/lang/StringBuilder"), (0, u "append"), (0, u "(Ljava/lang/String;)Ljava/lang/StringBuilder;"), (0, .methodref 2 30), (0, .nameAndType 27 31), (0, u "(Ljava/lang/String;)Ljava/lang/AbstractStringBuilder;"), (21, .methodref 2 54), (0, .nameAndType 27 55), (0, u "(I)Ljava/lang/AbstractStringBuilder;"), (0, .methodref 2 57), (0, .nameAndType 27 58), (0, u "(J)Ljava/lang/AbstractStringBuilder;"), (78, .methodref 18 138), (0, .nameAndType 5 139), (0, u "(Ljava/lang/StringBuilder;)V"), (5, u "()V"), (10, u "()I"), (111, u "(I)Ljava/lang/StringBuilder;"), (12, u "(J)Ljava/lang/StringBuilder;"), (61, .methodref 2 344), (0, .nameAndType 345 156), (0, u "length"), (3, .class_ 350), (0, u "java/lang/Appendable"), (0, .class_ 352), (0, u "java/io/Serializable"), (0, .class_ 354), (0, u "java/lang/Comparable"), (0, .class_ 356), (0, u "java/lang/CharSequence"), (0, u "serialVersionUID"), (0, u "J"), (40, u "toString"), (0, u "()Ljava/lang/String;")] 21

def k13c0 : Code := { maxStack := 2, maxLocals := 1, code := jdk_67_method_1_code, exceptionTable := #[], attributes := #[] }
def k13m0 : Method := { name := "<init>", desc := "()V", sig := { parameters := [], returnType := none }, accessFlags := 1, code := some k13c0 }
def k13c1 : Code := { maxStack := 2, maxLocals := 2, code := jdk_67_method_7_code, exceptionTable := #[], attributes := #[] }
def k13m1 : Method := { name := "append", desc := "(Ljava/lang/String;)Ljava/lang/StringBuilder;", sig := { parameters := [(.object "java/lang/String")], returnType := some (.object "java/lang/StringBuilder") }, accessFlags := 1, code := some k13c1 }
def k13c2 : Code := { maxStack := 2, maxLocals := 2, code := jdk_67_method_15_code, exceptionTable := #[], attributes := #[] }
def k13m2 : Method := { name := "append", desc := "(I)Ljava/lang/StringBuilder;", sig := { parameters := [.int], returnType := some (.object "java/lang/StringBuilder") }, accessFlags := 1, code := some k13c2 }
def k13c3 : Code := { maxStack := 3, maxLocals := 3, code := jdk_67_method_16_code, exceptionTable := #[], attributes := #[] }
def k13m3 : Method := { name := "append", desc := "(J)Ljava/lang/StringBuilder;", sig := { parameters := [.long], returnType := some (.object "java/lang/StringBuilder") }, accessFlags := 1, code := some k13c3 }
def k13c4 : Code := { maxStack := 3, maxLocals := 1, code := jdk_67_method_42_code, exceptionTable := #[], attributes := #[] }
def k13m4 : Method := { name := "toString", desc := "()Ljava/lang/String;", sig := { parameters := [], returnType := some (.object "java/lang/String") }, accessFlags := 1, code := some k13c4 }
def k13c5 : Code := { maxStack := 1, maxLocals := 1, code := jdk_67_method_93_code, exceptionTable := #[], attributes := #[] }
def k13m5 : Method := { name := "length", desc := "()I", sig := { parameters := [], returnType := some .int }, accessFlags := 4161, code := some k13c5 }
/-- java/lang/StringBuilder -/
def k13 : Class := { plain "java/lang/StringBuilder" (some 12) with
  accessFlags := 49
  interfaces := #[11, 2, 3, 4]
  cf := some (fileOf pool13 24 #[] #[{ accessFlags := 1, nameIndex := 5, descriptorIndex := 145, attributes := #[] }, { accessFlags := 1, nameIndex := 27, descriptorIndex := 28, attributes := #[] }, { accessFlags := 1, nameIndex := 27, descriptorIndex := 268, attributes := #[] }, { accessFlags := 1, nameIndex := 27, descriptorIndex := 281, attributes := #[] }, { accessFlags := 1, nameIndex := 399, descriptorIndex := 400, attributes := #[] }, { accessFlags := 4161, nameIndex := 345, descriptorIndex := 156, attributes := #[] }] 49 2 #[349, 351, 353, 355] #[{ accessFlags := 24, nameIndex := 357, descriptorIndex := 358, attributes := #[] }])
  fields := #[{ name := "serialVersionUID", type := .long, accessFlags := 24, slot := 0, constantValue := 0 }]
  methods := #[k13m0, k13m1, k13m2, k13m3, k13m4, k13m5]
  instanceTypes := #[(.array .byte), .byte, .boolean, .int]
  staticTypes := #[.long]
  resolved := Array.replicate 422 none
  statics := none }

def pool14 : Array CpInfo := pool [(2, .class_ 4), (1, u "java/lang/Object"), (0, u "<init>"), (0, u "()V"), (1, .class_ 10), (1, u "java/lang/System"), (0, u "allowSecurityManager"), (0, u "I"), (16, u "cons"), (0, u "Ljava/io/Console;"), (77, .class_ 110), (1, u "java/lang/System$CallersHolder"), (43, u "initialErrStream"), (0, u "Ljava/io/PrintStream;"), (19, u "security"), (0, u "Ljava/lang/SecurityManager;"), (31, .class_ 209), (0, u "java/lang/System$1"), (7, u "props"), (0, u "Ljava/util/Properties;"), (2, u "lineSeparator"), (0, u "Ljava/lang/String;"), (96, .class_ 321), (1, u "java/lang/System$LoggerFinder"), (5, .class_ 328), (0, u "java/lang/System$Logger"), (67, u "err"), (2, u "out"), (91, u "notSupportedJnuEncoding"), (15, u "in"), (17, u "initialIn"), (0, u "Ljava/io/InputStream;"), (35, u "bootLayer"), (0, u "Ljava/lang/ModuleLayer;"), (99, .class_ 664), (0, u "java/lang/System$2"), (9, u "NEVER"), (2, u "MAYBE"), (49, u "arraycopy"), (0, u "(Ljava/lang/Object;ILjava/lang/Object;II)V"), (72, .class_ 802), (0, u "java/lang/System$Logger$Level")] 31

def k14m0 : Method := { name := "<init>", desc := "()V", sig := { parameters := [], returnType := none }, accessFlags := 2, code := none }
def k14m1 : Method := { name := "arraycopy", desc := "(Ljava/lang/Object;ILjava/lang/Object;II)V", sig := { parameters := [(.object "java/lang/Object"), .int, (.object "java/lang/Object"), .int, .int], returnType := none }, accessFlags := 265, code := none }
/-- java/lang/System -/
def k14 : Class := { plain "java/lang/System" (some 0) with
  accessFlags := 49
  interfaces := #[]
  cf := some (fileOf pool14 8 #[.nestMembers #[319, 327, 801, 108, 663, 208]] #[{ accessFlags := 2, nameIndex := 5, descriptorIndex := 6, attributes := #[] }, { accessFlags := 265, nameIndex := 727, descriptorIndex := 728, attributes := #[] }] 49 2 #[] #[{ accessFlags := 25, nameIndex := 507, descriptorIndex := 526, attributes := #[] }, { accessFlags := 25, nameIndex := 399, descriptorIndex := 155, attributes := #[] }, { accessFlags := 25, nameIndex := 396, descriptorIndex := 155, attributes := #[] }, { accessFlags := 10, nameIndex := 525, descriptorIndex := 526, attributes := #[] }, { accessFlags := 26, nameIndex := 674, descriptorIndex := 12, attributes := #[] }, { accessFlags := 26, nameIndex := 677, descriptorIndex := 12, attributes := #[] }, { accessFlags := 10, nameIndex := 11, descriptorIndex := 12, attributes := #[] }, { accessFlags := 74, nameIndex := 175, descriptorIndex := 176, attributes := #[] }, { accessFlags := 10, nameIndex := 491, descriptorIndex := 222, attributes := #[] }, { accessFlags := 74, nameIndex := 29, descriptorIndex := 30, attributes := #[] }, { accessFlags := 74, nameIndex := 154, descriptorIndex := 155, attributes := #[] }, { accessFlags := 10, nameIndex := 217, descriptorIndex := 218, attributes := #[] }, { accessFlags := 10, nameIndex := 221, descriptorIndex := 222, attributes := #[] }, { accessFlags := 8, nameIndex := 562, descriptorIndex := 563, attributes := #[] }])
  fields := #[{ name := "in", type := (.object "java/io/InputStream"), accessFlags := 25, slot := 0, constantValue := 0 }, { name := "out", type := (.object "java/io/PrintStream"), accessFlags := 25, slot := 1, constantValue := 0 }, { name := "err", type := (.object "java/io/PrintStream"), accessFlags := 25, slot := 2, constantValue := 0 }, { name := "initialIn", type := (.object "java/io/InputStream"), accessFlags := 10, slot := 3, constantValue := 0 }, { name := "NEVER", type := .int, accessFlags := 26, slot := 4, constantValue := 0 }, { name := "MAYBE", type := .int, accessFlags := 26, slot := 5, constantValue := 0 }, { name := "allowSecurityManager", type := .int, accessFlags := 10, slot := 6, constantValue := 0 }, { name := "security", type := (.object "java/lang/SecurityManager"), accessFlags := 74, slot := 7, constantValue := 0 }, { name := "notSupportedJnuEncoding", type := (.object "java/lang/String"), accessFlags := 10, slot := 8, constantValue := 0 }, { name := "cons", type := (.object "java/io/Console"), accessFlags := 74, slot := 9, constantValue := 0 }, { name := "initialErrStream", type := (.object "java/io/PrintStream"), accessFlags := 74, slot := 10, constantValue := 0 }, { name := "props", type := (.object "java/util/Properties"), accessFlags := 10, slot := 11, constantValue := 0 }, { name := "lineSeparator", type := (.object "java/lang/String"), accessFlags := 10, slot := 12, constantValue := 0 }, { name := "bootLayer", type := (.object "java/lang/ModuleLayer"), accessFlags := 8, slot := 13, constantValue := 0 }]
  methods := #[k14m0, k14m1]
  instanceTypes := #[]
  staticTypes := #[(.object "java/io/InputStream"), (.object "java/io/PrintStream"), (.object "java/io/PrintStream"), (.object "java/io/InputStream"), .int, .int, .int, (.object "java/lang/SecurityManager"), (.object "java/lang/String"), (.object "java/io/Console"), (.object "java/io/PrintStream"), (.object "java/util/Properties"), (.object "java/lang/String"), (.object "java/lang/ModuleLayer")]
  resolved := Array.replicate 834 none
  statics := none }

def pool15 : Array CpInfo := pool [(9, u "<init>"), (6, .class_ 18), (1, u "java/lang/Object"), (0, u "()V"), (1, .class_ 23), (1, u "jdk/internal/util/ArraysSupport"), (0, u "LOG2_ARRAY_LONG_INDEX_SCALE"), (0, u "I"), (2, u "U"), (0, u "Ljdk/internal/misc/Unsafe;"), (8, u "BIG_ENDIAN"), (0, u "Z"), (8, u "LOG2_BYTE_BIT_SIZE"), (4, u "LOG2_ARRAY_INT_INDEX_SCALE"), (54, u "JLA"), (0, u "Ljdk/internal/access/JavaLangAccess;"), (11, u "LOG2_ARRAY_BOOLEAN_INDEX_SCALE"), (9, u "LOG2_ARRAY_BYTE_INDEX_SCALE"), (5, u "LOG2_ARRAY_CHAR_INDEX_SCALE"), (5, u "LOG2_ARRAY_SHORT_INDEX_SCALE"), (18, u "LOG2_ARRAY_FLOAT_INDEX_SCALE"), (24, u "LOG2_ARRAY_DOUBLE_INDEX_SCALE"), (6, .methodref 195 196), (0, .class_ 197), (0, .nameAndType 198 199), (0, u "java/lang/Math"), (0, u "max"), (0, u "(II)I"), (0, .integer 2147483639), (76, u "T_BOOLEAN"), (2, u "T_CHAR"), (1, u "T_FLOAT"), (1, u "T_DOUBLE"), (1, u "T_BYTE"), (1, u "T_SHORT"), (1, u "T_INT"), (1, u "T_LONG"), (1, u "SOFT_MAX_ARRAY_LENGTH"), (56, u "newLength"), (0, u "(III)I")] 25

def k15m0 : Method := { name := "<init>", desc := "()V", sig := { parameters := [], returnType := none }, accessFlags := 2, code := none }
def k15c1 : Code := { maxStack := 3, maxLocals := 4, code := jdk_48_method_27_code, exceptionTable := #[], attributes := #[] }
def k15m1 : Method := { name := "newLength", desc := "(III)I", sig := { parameters := [.int, .int, .int], returnType := some .int }, accessFlags := 9, code := some k15c1 }
/-- jdk/internal/util/ArraysSupport -/
def k15 : Class := { plain "jdk/internal/util/ArraysSupport" (some 0) with
  accessFlags := 33
  interfaces := #[]
  cf := some (fileOf pool15 21 #[] #[{ accessFlags := 2, nameIndex := 9, descriptorIndex := 19, attributes := #[] }, { accessFlags := 9, nameIndex := 351, descriptorIndex := 352, attributes := #[] }] 33 16 #[] #[{ accessFlags := 24, nameIndex := 28, descriptorIndex := 29, attributes := #[] }, { accessFlags := 26, nameIndex := 38, descriptorIndex := 39, attributes := #[] }, { accessFlags := 25, nameIndex := 121, descriptorIndex := 25, attributes := #[] }, { accessFlags := 25, nameIndex := 131, descriptorIndex := 25, attributes := #[] }, { accessFlags := 25, nameIndex := 137, descriptorIndex := 25, attributes := #[] }, { accessFlags := 25, nameIndex := 143, descriptorIndex := 25, attributes := #[] }, { accessFlags := 25, nameIndex := 53, descriptorIndex := 25, attributes := #[] }, { accessFlags := 25, nameIndex := 24, descriptorIndex := 25, attributes := #[] }, { accessFlags := 25, nameIndex := 162, descriptorIndex := 25, attributes := #[] }, { accessFlags := 25, nameIndex := 187, descriptorIndex := 25, attributes := #[] }, { accessFlags := 26, nameIndex := 48, descriptorIndex := 25, attributes := #[] }, { accessFlags := 25, nameIndex := 277, descriptorIndex := 25, attributes := #[] }, { accessFlags := 25, nameIndex := 280, descriptorIndex := 25, attributes := #[] }, { accessFlags := 25, nameIndex := 282, descriptorIndex := 25, attributes := #[] }, { accessFlags := 25, nameIndex := 284, descriptorIndex := 25, attributes := #[] }, { accessFlags := 25, nameIndex := 286, descriptorIndex := 25, attributes := #[] }, { accessFlags := 25, nameIndex := 288, descriptorIndex := 25, attributes := #[] }, { accessFlags := 25, nameIndex := 290, descriptorIndex := 25, attributes := #[] }, { accessFlags := 25, nameIndex := 292, descriptorIndex := 25, attributes := #[] }, { accessFlags := 26, nameIndex := 108, descriptorIndex := 109, attributes := #[] }, { accessFlags := 25, nameIndex := 294, descriptorIndex := 25, attributes := #[] }])
  fields := #[{ name := "U", type := (.object "jdk/internal/misc/Unsafe"), accessFlags := 24, slot := 0, constantValue := 0 }, { name := "BIG_ENDIAN", type := .boolean, accessFlags := 26, slot := 1, constantValue := 0 }, { name := "LOG2_ARRAY_BOOLEAN_INDEX_SCALE", type := .int, accessFlags := 25, slot := 2, constantValue := 0 }, { name := "LOG2_ARRAY_BYTE_INDEX_SCALE", type := .int, accessFlags := 25, slot := 3, constantValue := 0 }, { name := "LOG2_ARRAY_CHAR_INDEX_SCALE", type := .int, accessFlags := 25, slot := 4, constantValue := 0 }, { name := "LOG2_ARRAY_SHORT_INDEX_SCALE", type := .int, accessFlags := 25, slot := 5, constantValue := 0 }, { name := "LOG2_ARRAY_INT_INDEX_SCALE", type := .int, accessFlags := 25, slot := 6, constantValue := 0 }, { name := "LOG2_ARRAY_LONG_INDEX_SCALE", type := .int, accessFlags := 25, slot := 7, constantValue := 0 }, { name := "LOG2_ARRAY_FLOAT_INDEX_SCALE", type := .int, accessFlags := 25, slot := 8, constantValue := 0 }, { name := "LOG2_ARRAY_DOUBLE_INDEX_SCALE", type := .int, accessFlags := 25, slot := 9, constantValue := 0 }, { name := "LOG2_BYTE_BIT_SIZE", type := .int, accessFlags := 26, slot := 10, constantValue := 0 }, { name := "T_BOOLEAN", type := .int, accessFlags := 25, slot := 11, constantValue := 0 }, { name := "T_CHAR", type := .int, accessFlags := 25, slot := 12, constantValue := 0 }, { name := "T_FLOAT", type := .int, accessFlags := 25, slot := 13, constantValue := 0 }, { name := "T_DOUBLE", type := .int, accessFlags := 25, slot := 14, constantValue := 0 }, { name := "T_BYTE", type := .int, accessFlags := 25, slot := 15, constantValue := 0 }, { name := "T_SHORT", type := .int, accessFlags := 25, slot := 16, constantValue := 0 }, { name := "T_INT", type := .int, accessFlags := 25, slot := 17, constantValue := 0 }, { name := "T_LONG", type := .int, accessFlags := 25, slot := 18, constantValue := 0 }, { name := "JLA", type := (.object "jdk/internal/access/JavaLangAccess"), accessFlags := 26, slot := 19, constantValue := 0 }, { name := "SOFT_MAX_ARRAY_LENGTH", type := .int, accessFlags := 25, slot := 20, constantValue := 0 }]
  methods := #[k15m0, k15m1]
  instanceTypes := #[]
  staticTypes := #[(.object "jdk/internal/misc/Unsafe"), .boolean, .int, .int, .int, .int, .int, .int, .int, .int, .int, .int, .int, .int, .int, .int, .int, .int, .int, (.object "jdk/internal/access/JavaLangAccess"), .int]
  resolved := Array.replicate 378 none
  statics := none }

def pool16 : Array CpInfo := pool [(1, .class_ 2), (0, u "java/lang/Math"), (1, .class_ 6), (1, u "java/lang/Object"), (0, u "<init>"), (0, u "()V"), (89, .class_ 100), (1, u "java/lang/Math$RandomNumberGeneratorHolder"), (23, u "abs"), (0, u "(J)J"), (46, u "negativeZeroFloatBits"), (0, u "J"), (2, u "negativeZeroDoubleBits"), (21, u "max"), (2, u "min"), (43, u "$assertionsDisabled"), (0, u "Z"), (88, u "(II)I"), (2, u "twoToTheDoubleScaleDown"), (0, u "D"), (4, u "twoToTheDoubleScaleUp"), (9, u "E"), (3, u "PI"), (2, u "TAU"), (2, u "DEGREES_TO_RADIANS"), (0, u "RADIANS_TO_DEGREES")] 94

def k16m0 : Method := { name := "<init>", desc := "()V", sig := { parameters := [], returnType := none }, accessFlags := 2, code := none }
def k16c1 : Code := { maxStack := 4, maxLocals := 2, code := jdk_29_method_61_code, exceptionTable := #[], attributes := #[] }
def k16m1 : Method := { name := "abs", desc := "(J)J", sig := { parameters := [.long], returnType := some .long }, accessFlags := 9, code := some k16c1 }
def k16c2 : Code := { maxStack := 2, maxLocals := 2, code := jdk_29_method_65_code, exceptionTable := #[], attributes := #[] }
def k16m2 : Method := { name := "max", desc := "(II)I", sig := { parameters := [.int, .int], returnType := some .int }, accessFlags := 9, code := some k16c2 }
def k16c3 : Code := { maxStack := 2, maxLocals := 2, code := jdk_29_method_69_code, exceptionTable := #[], attributes := #[] }
def k16m3 : Method := { name := "min", desc := "(II)I", sig := { parameters := [.int, .int], returnType := some .int }, accessFlags := 9, code := some k16c3 }
/-- java/lang/Math -/
def k16 : Class := { plain "java/lang/Math" (some 0) with
  accessFlags := 49
  interfaces := #[]
  cf := some (fileOf pool16 1 #[.nestMembers #[98]] #[{ accessFlags := 2, nameIndex := 7, descriptorIndex := 8, attributes := #[] }, { accessFlags := 9, nameIndex := 124, descriptorIndex := 125, attributes := #[] }, { accessFlags := 9, nameIndex := 198, descriptorIndex := 335, attributes := #[] }, { accessFlags := 9, nameIndex := 201, descriptorIndex := 335, attributes := #[] }] 49 4 #[] #[{ accessFlags := 25, nameIndex := 354, descriptorIndex := 339, attributes := #[] }, { accessFlags := 25, nameIndex := 358, descriptorIndex := 339, attributes := #[] }, { accessFlags := 25, nameIndex := 361, descriptorIndex := 339, attributes := #[] }, { accessFlags := 26, nameIndex := 364, descriptorIndex := 339, attributes := #[] }, { accessFlags := 26, nameIndex := 365, descriptorIndex := 339, attributes := #[] }, { accessFlags := 26, nameIndex := 172, descriptorIndex := 173, attributes := #[] }, { accessFlags := 26, nameIndex := 176, descriptorIndex := 173, attributes := #[] }, { accessFlags := 8, nameIndex := 344, descriptorIndex := 339, attributes := #[] }, { accessFlags := 8, nameIndex := 338, descriptorIndex := 339, attributes := #[] }, { accessFlags := 4120, nameIndex := 245, descriptorIndex := 246, attributes := #[] }])
  fields := #[{ name := "E", type := .double, accessFlags := 25, slot := 0, constantValue := 0 }, { name := "PI", type := .double, accessFlags := 25, slot := 1, constantValue := 0 }, { name := "TAU", type := .double, accessFlags := 25, slot := 2, constantValue := 0 }, { name := "DEGREES_TO_RADIANS", type := .double, accessFlags := 26, slot := 3, constantValue := 0 }, { name := "RADIANS_TO_DEGREES", type := .double, accessFlags := 26, slot := 4, constantValue := 0 }, { name := "negativeZeroFloatBits", type := .long, accessFlags := 26, slot := 5, constantValue := 0 }, { name := "negativeZeroDoubleBits", type := .long, accessFlags := 26, slot := 6, constantValue := 0 }, { name := "twoToTheDoubleScaleUp", type := .double, accessFlags := 8, slot := 7, constantValue := 0 }, { name := "twoToTheDoubleScaleDown", type := .double, accessFlags := 8, slot := 8, constantValue := 0 }, { name := "$assertionsDisabled", type := .boolean, accessFlags := 4120, slot := 9, constantValue := 0 }]
  methods := #[k16m0, k16m1, k16m2, k16m3]
  instanceTypes := #[]
  staticTypes := #[.double, .double, .double, .double, .double, .long, .long, .double, .double, .boolean]
  resolved := Array.replicate 460 none
  statics := none }

def pool17 : Array CpInfo := pool [(2, .class_ 4), (1, u "java/lang/Object"), (0, u "<init>"), (0, u "()V"), (7, .class_ 16), (1, u "java/util/Arrays"), (57, .class_ 76), (1, u "java/util/Arrays$NaturalOrder"), (36, .class_ 115), (1, u "java/util/Arrays$LegacyMergeSort"), (1, u "Z"), (21, u "copyOfRange"), (10, .methodref 151 152), (0, .class_ 153), (0, .nameAndType 154 155), (0, u "java/lang/System"), (0, u "arraycopy"), (0, u "(Ljava/lang/Object;ILjava/lang/Object;II)V"), (146, u "copyOf"), (1, .methodref 305 306), (0, .class_ 307), (0, .nameAndType 308 309), (0, u "java/lang/Math"), (0, u "min"), (0, u "(II)I"), (29, .methodref 14 340), (0, .nameAndType 341 342), (0, u "copyOfRangeByte"), (0, u "([BII)[B"), (0, .methodref 14 344), (0, .nameAndType 345 346), (0, u "checkLength"), (0, u "(II)V"), (28, .class_ 376), (0, u "java/util/Arrays$ArrayList"), (68, u "$assertionsDisabled"), (269, u "MIN_ARRAY_SORT_GRAN"), (0, u "I"), (2, u "INSERTIONSORT_THRESHOLD"), (149, u "([BI)[B"), (105, .class_ 976), (0, u "java/util/Arrays$ArrayItr")] 52

def k17m0 : Method := { name := "<init>", desc := "()V", sig := { parameters := [], returnType := none }, accessFlags := 2, code := none }
def k17c1 : Code := { maxStack := 6, maxLocals := 3, code := jdk_65_method_121_code, exceptionTable := #[], attributes := #[] }
def k17m1 : Method := { name := "copyOf", desc := "([BI)[B", sig := { parameters := [(.array .byte), .int], returnType := some (.array .byte) }, accessFlags := 9, code := some k17c1 }
def k17c2 : Code := { maxStack := 4, maxLocals := 2, code := jdk_65_method_131_code, exceptionTable := #[], attributes := #[] }
def k17m2 : Method := { name := "checkLength", desc := "(II)V", sig := { parameters := [.int, .int], returnType := none }, accessFlags := 10, code := some k17c2 }
def k17c3 : Code := { maxStack := 3, maxLocals := 3, code := jdk_65_method_132_code, exceptionTable := #[], attributes := #[] }
def k17m3 : Method := { name := "copyOfRange", desc := "([BII)[B", sig := { parameters := [(.array .byte), .int, .int], returnType := some (.array .byte) }, accessFlags := 9, code := some k17c3 }
def k17c4 : Code := { maxStack := 6, maxLocals := 5, code := jdk_65_method_133_code, exceptionTable := #[], attributes := #[] }
def k17m4 : Method := { name := "copyOfRangeByte", desc := "([BII)[B", sig := { parameters := [(.array .byte), .int, .int], returnType := some (.array .byte) }, accessFlags := 10, code := some k17c4 }
/-- java/util/Arrays -/
def k17 : Class := { plain "java/util/Arrays" (some 0) with
  accessFlags := 49
  interfaces := #[]
  cf := some (fileOf pool17 14 #[.nestMembers #[975, 375, 113, 74]] #[{ accessFlags := 2, nameIndex := 5, descriptorIndex := 6, attributes := #[] }, { accessFlags := 9, nameIndex := 302, descriptorIndex := 869, attributes := #[] }, { accessFlags := 10, nameIndex := 345, descriptorIndex := 346, attributes := #[] }, { accessFlags := 9, nameIndex := 139, descriptorIndex := 342, attributes := #[] }, { accessFlags := 10, nameIndex := 341, descriptorIndex := 342, attributes := #[] }] 49 2 #[] #[{ accessFlags := 26, nameIndex := 715, descriptorIndex := 716, attributes := #[] }, { accessFlags := 26, nameIndex := 719, descriptorIndex := 716, attributes := #[] }, { accessFlags := 4120, nameIndex := 445, descriptorIndex := 117, attributes := #[] }])
  fields := #[{ name := "MIN_ARRAY_SORT_GRAN", type := .int, accessFlags := 26, slot := 0, constantValue := 0 }, { name := "INSERTIONSORT_THRESHOLD", type := .int, accessFlags := 26, slot := 1, constantValue := 0 }, { name := "$assertionsDisabled", type := .boolean, accessFlags := 4120, slot := 2, constantValue := 0 }]
  methods := #[k17m0, k17m1, k17m2, k17m3, k17m4]
  instanceTypes := #[]
  staticTypes := #[.int, .int, .boolean]
  resolved := Array.replicate 1029 none
  statics := none }

def pool18 : Array CpInfo := pool [(2, .class_ 4), (1, u "java/lang/Object"), (0, u "<init>"), (0, u "()V"), (1, .class_ 10), (1, u "java/lang/Number"), (2, .class_ 14), (0, u "java/io/Serializable"), (0, u "serialVersionUID"), (0, u "J")] 20

def k18m0 : Method := { name := "<init>", desc := "()V", sig := { parameters := [], returnType := none }, accessFlags := 1, code := none }
/-- java/lang/Number -/
def k18 : Class := { plain "java/lang/Number" (some 0) with
  accessFlags := 1057
  interfaces := #[2]
  cf := some (fileOf pool18 8 #[] #[{ accessFlags := 1, nameIndex := 5, descriptorIndex := 6, attributes := #[] }] 1057 2 #[13] #[{ accessFlags := 26, nameIndex := 15, descriptorIndex := 16, attributes := #[] }])
  fields := #[{ name := "serialVersionUID", type := .long, accessFlags := 26, slot := 0, constantValue := 0 }]
  methods := #[k18m0]
  instanceTypes := #[]
  staticTypes := #[.long]
  resolved := Array.replicate 37 none
  statics := none }

def pool19 : Array CpInfo := pool [(1, .class_ 2), (0, u "java/lang/Integer"), (16, u "digits"), (0, u "[C"), (33, u "(I)I"), (19, u "stringSize"), (2, u "getChars"), (0, u "(II[B)I"), (4, .fieldref 1 84), (0, .nameAndType 85 86), (0, u "DigitOnes"), (0, u "[B"), (0, .fieldref 1 88), (0, .nameAndType 89 86), (0, u "DigitTens"), (99, .class_ 190), (0, u "java/lang/Integer$IntegerCache"), (3, u "I"), (8, .class_ 204), (0, u "java/lang/Number"), (2, u "value"), (94, u "TYPE"), (0, u "Ljava/lang/Class;"), (0, .class_ 305), (0, u "java/lang/Comparable"), (0, .class_ 307), (0, u "java/lang/constant/Constable"), (0, .class_ 309), (0, u "java/lang/constant/ConstantDesc"), (0, u "MIN_VALUE"), (1, u "MAX_VALUE"), (3, u "SIZE"), (1, u "BYTES"), (1, u "serialVersionUID"), (0, u "J")] 131

def k19c0 : Code := { maxStack := 4, maxLocals := 7, code := jdk_33_method_12_code, exceptionTable := #[], attributes := #[] }
def k19m0 : Method := { name := "getChars", desc := "(II[B)I", sig := { parameters := [.int, .int, (.array .byte)], returnType := some .int }, accessFlags := 8, code := some k19c0 }
def k19c1 : Code := { maxStack := 2, maxLocals := 4, code := jdk_33_method_13_code, exceptionTable := #[], attributes := #[] }
def k19m1 : Method := { name := "stringSize", desc := "(I)I", sig := { parameters := [.int], returnType := some .int }, accessFlags := 8, code := some k19c1 }
/-- java/lang/Integer -/
def k19 : Class := { plain "java/lang/Integer" (some 18) with
  accessFlags := 49
  interfaces := #[3, 5, 6]
  cf := some (fileOf pool19 1 #[.nestMembers #[189]] #[{ accessFlags := 8, nameIndex := 77, descriptorIndex := 78, attributes := #[] }, { accessFlags := 8, nameIndex := 74, descriptorIndex := 54, attributes := #[] }] 49 203 #[304, 306, 308] #[{ accessFlags := 25, nameIndex := 310, descriptorIndex := 194, attributes := #[] }, { accessFlags := 25, nameIndex := 312, descriptorIndex := 194, attributes := #[] }, { accessFlags := 25, nameIndex := 302, descriptorIndex := 303, attributes := #[] }, { accessFlags := 24, nameIndex := 19, descriptorIndex := 20, attributes := #[] }, { accessFlags := 24, nameIndex := 89, descriptorIndex := 86, attributes := #[] }, { accessFlags := 24, nameIndex := 85, descriptorIndex := 86, attributes := #[] }, { accessFlags := 18, nameIndex := 207, descriptorIndex := 194, attributes := #[] }, { accessFlags := 25, nameIndex := 316, descriptorIndex := 194, attributes := #[] }, { accessFlags := 25, nameIndex := 318, descriptorIndex := 194, attributes := #[] }, { accessFlags := 26, nameIndex := 320, descriptorIndex := 321, attributes := #[] }])
  fields := #[{ name := "MIN_VALUE", type := .int, accessFlags := 25, slot := 0, constantValue := 0 }, { name := "MAX_VALUE", type := .int, accessFlags := 25, slot := 1, constantValue := 0 }, { name := "TYPE", type := (.object "java/lang/Class"), accessFlags := 25, slot := 2, constantValue := 0 }, { name := "digits", type := (.array .char), accessFlags := 24, slot := 3, constantValue := 0 }, { name := "DigitTens", type := (.array .byte), accessFlags := 24, slot := 4, constantValue := 0 }, { name := "DigitOnes", type := (.array .byte), accessFlags := 24, slot := 5, constantValue := 0 }, { name := "value", type := .int, accessFlags := 18, slot := 0, constantValue := 0 }, { name := "SIZE", type := .int, accessFlags := 25, slot := 6, constantValue := 0 }, { name := "BYTES", type := .int, accessFlags := 25, slot := 7, constantValue := 0 }, { name := "serialVersionUID", type := .long, accessFlags := 26, slot := 8, constantValue := 0 }]
  methods := #[k19m0, k19m1]
  instanceTypes := #[.int]
  staticTypes := #[.int, .int, (.object "java/lang/Class"), (.array .char), (.array .byte), (.array .byte), .int, .int, .long]
  resolved := Array.replicate 453 none
  statics := some 1 }

def pool20 : Array CpInfo := pool [(1, .class_ 2), (0, u "java/lang/Long"), (15, .class_ 20), (1, u "java/lang/Integer"), (32, .long 10), (47, u "(J)I"), (18, u "stringSize"), (2, u "getChars"), (0, u "(JI[B)I"), (4, .long 18446744071562067968), (1, .long 100), (1, .fieldref 18 134), (0, .nameAndType 135 136), (0, u "DigitOnes"), (0, u "[B"), (0, .fieldref 18 138), (0, .nameAndType 139 136), (0, u "DigitTens"), (0, .long 18446744073709551606), (94, .class_ 237), (1, u "java/lang/Long$LongCache"), (33, .class_ 272), (0, u "java/lang/Number"), (2, u "value"), (0, u "J"), (84, u "TYPE"), (0, u "Ljava/lang/Class;"), (0, .class_ 364), (0, u "java/lang/Comparable"), (0, .class_ 366), (0, u "java/lang/constant/Constable"), (0, .class_ 368), (0, u "java/lang/constant/ConstantDesc"), (0, u "MIN_VALUE"), (1, u "MAX_VALUE"), (4, u "SIZE"), (0, u "I"), (1, u "BYTES"), (1, u "serialVersionUID")] 142

def k20c0 : Code := { maxStack := 4, maxLocals := 11, code := jdk_35_method_14_code, exceptionTable := #[], attributes := #[] }
def k20m0 : Method := { name := "getChars", desc := "(JI[B)I", sig := { parameters := [.long, .int, (.array .byte)], returnType := some .int }, accessFlags := 8, code := some k20c0 }
def k20c1 : Code := { maxStack := 4, maxLocals := 6, code := jdk_35_method_15_code, exceptionTable := #[], attributes := #[] }
def k20m1 : Method := { name := "stringSize", desc := "(J)I", sig := { parameters := [.long], returnType := some .int }, accessFlags := 8, code := some k20c1 }
/-- java/lang/Long -/
def k20 : Class := { plain "java/lang/Long" (some 18) with
  accessFlags := 49
  interfaces := #[3, 5, 6]
  cf := some (fileOf pool20 1 #[.nestMembers #[235]] #[{ accessFlags := 8, nameIndex := 123, descriptorIndex := 124, attributes := #[] }, { accessFlags := 8, nameIndex := 120, descriptorIndex := 101, attributes := #[] }] 49 271 #[363, 365, 367] #[{ accessFlags := 25, nameIndex := 369, descriptorIndex := 276, attributes := #[] }, { accessFlags := 25, nameIndex := 371, descriptorIndex := 276, attributes := #[] }, { accessFlags := 25, nameIndex := 361, descriptorIndex := 362, attributes := #[] }, { accessFlags := 18, nameIndex := 275, descriptorIndex := 276, attributes := #[] }, { accessFlags := 25, nameIndex := 376, descriptorIndex := 377, attributes := #[] }, { accessFlags := 25, nameIndex := 379, descriptorIndex := 377, attributes := #[] }, { accessFlags := 26, nameIndex := 381, descriptorIndex := 276, attributes := #[] }])
  fields := #[{ name := "MIN_VALUE", type := .long, accessFlags := 25, slot := 0, constantValue := 0 }, { name := "MAX_VALUE", type := .long, accessFlags := 25, slot := 1, constantValue := 0 }, { name := "TYPE", type := (.object "java/lang/Class"), accessFlags := 25, slot := 2, constantValue := 0 }, { name := "value", type := .long, accessFlags := 18, slot := 0, constantValue := 0 }, { name := "SIZE", type := .int, accessFlags := 25, slot := 3, constantValue := 0 }, { name := "BYTES", type := .int, accessFlags := 25, slot := 4, constantValue := 0 }, { name := "serialVersionUID", type := .long, accessFlags := 26, slot := 5, constantValue := 0 }]
  methods := #[k20m0, k20m1]
  instanceTypes := #[.long]
  staticTypes := #[.long, .long, (.object "java/lang/Class"), .int, .int, .long]
  resolved := Array.replicate 524 none
  statics := none }

def pool21 : Array CpInfo := pool [(1, .class_ 2), (0, u "java/lang/String"), (1, .class_ 6), (1, u "java/lang/Object"), (0, u "<init>"), (0, u "()V"), (0, .methodref 1 10), (0, .nameAndType 11 12), (0, u "checkIndex"), (0, u "(II)V"), (1, .class_ 16), (1, u "java/lang/StringLatin1"), (36, u "([BI)C"), (36, u "canEncode"), (14, u "(C)Z"), (15, u "$assertionsDisabled"), (0, u "Z"), (98, .class_ 223), (1, u "java/lang/StringLatin1$LinesSpliterator"), (28, u "charAt"), (127, u "toBytes"), (1, u "(C)[B"), (7, .class_ 391), (0, u "java/lang/StringLatin1$CharsSpliterator")] 3

def k21m0 : Method := { name := "<init>", desc := "()V", sig := { parameters := [], returnType := none }, accessFlags := 0, code := none }
def k21c1 : Code := { maxStack := 2, maxLocals := 2, code := jdk_43_method_2_code, exceptionTable := #[], attributes := #[] }
def k21m1 : Method := { name := "charAt", desc := "([BI)C", sig := { parameters := [(.array .byte), .int], returnType := some .char }, accessFlags := 9, code := some k21c1 }
def k21c2 : Code := { maxStack := 2, maxLocals := 1, code := jdk_43_method_3_code, exceptionTable := #[], attributes := #[] }
def k21m2 : Method := { name := "canEncode", desc := "(C)Z", sig := { parameters := [.char], returnType := some .boolean }, accessFlags := 9, code := some k21c2 }
def k21c3 : Code := { maxStack := 4, maxLocals := 1, code := jdk_43_method_46_code, exceptionTable := #[], attributes := #[] }
def k21m3 : Method := { name := "toBytes", desc := "(C)[B", sig := { parameters := [.char], returnType := some (.array .byte) }, accessFlags := 9, code := some k21c3 }
/-- java/lang/StringLatin1 -/
def k21 : Class := { plain "java/lang/StringLatin1" (some 0) with
  accessFlags := 48
  interfaces := #[]
  cf := some (fileOf pool21 14 #[.nestMembers #[390, 221]] #[{ accessFlags := 0, nameIndex := 7, descriptorIndex := 8, attributes := #[] }, { accessFlags := 9, nameIndex := 252, descriptorIndex := 53, attributes := #[] }, { accessFlags := 9, nameIndex := 90, descriptorIndex := 105, attributes := #[] }, { accessFlags := 9, nameIndex := 380, descriptorIndex := 382, attributes := #[] }] 48 4 #[] #[{ accessFlags := 4120, nameIndex := 121, descriptorIndex := 122, attributes := #[] }])
  fields := #[{ name := "$assertionsDisabled", type := .boolean, accessFlags := 4120, slot := 0, constantValue := 0 }]
  methods := #[k21m0, k21m1, k21m2, k21m3]
  instanceTypes := #[]
  staticTypes := #[.boolean]
  resolved := Array.replicate 395 none
  statics := none }

def pool22 : Array CpInfo := pool [(2, .class_ 4), (1, u "java/lang/Object"), (0, u "<init>"), (0, u "()V"), (17, .class_ 26), (1, u "jdk/internal/util/Preconditions"), (6, u "checkIndex"), (21, .class_ 56), (0, u "jdk/internal/util/Preconditions$4"), (57, .class_ 115), (0, u "jdk/internal/util/Preconditions$1"), (7, u "SIOOBE_FORMATTER"), (0, u "Ljava/util/function/BiFunction;"), (0, .class_ 126), (0, u "jdk/internal/util/Preconditions$2"), (3, u "AIOOBE_FORMATTER"), (0, .class_ 132), (0, u "jdk/internal/util/Preconditions$3"), (3, u "IOOBE_FORMATTER"), (41, u "(IILjava/util/function/BiFunction;)I")] 15

def k22m0 : Method := { name := "<init>", desc := "()V", sig := { parameters := [], returnType := none }, accessFlags := 1, code := none }
def k22c1 : Code := { maxStack := 3, maxLocals := 3, code := jdk_41_method_11_code, exceptionTable := #[], attributes := #[] }
def k22m1 : Method := { name := "checkIndex", desc := "(IILjava/util/function/BiFunction;)I", sig := { parameters := [.int, .int, (.object "java/util/function/BiFunction")], returnType := some .int }, accessFlags := 9, code := some k22c1 }
/-- jdk/internal/util/Preconditions -/
def k22 : Class := { plain "jdk/internal/util/Preconditions" (some 0) with
  accessFlags := 33
  interfaces := #[]
  cf := some (fileOf pool22 24 #[.nestMembers #[55, 131, 125, 114]] #[{ accessFlags := 1, nameIndex := 5, descriptorIndex := 6, attributes := #[] }, { accessFlags := 9, nameIndex := 33, descriptorIndex := 178, attributes := #[] }] 33 2 #[] #[{ accessFlags := 25, nameIndex := 123, descriptorIndex := 124, attributes := #[] }, { accessFlags := 25, nameIndex := 130, descriptorIndex := 124, attributes := #[] }, { accessFlags := 25, nameIndex := 136, descriptorIndex := 124, attributes := #[] }])
  fields := #[{ name := "SIOOBE_FORMATTER", type := (.object "java/util/function/BiFunction"), accessFlags := 25, slot := 0, constantValue := 0 }, { name := "AIOOBE_FORMATTER", type := (.object "java/util/function/BiFunction"), accessFlags := 25, slot := 1, constantValue := 0 }, { name := "IOOBE_FORMATTER", type := (.object "java/util/function/BiFunction"), accessFlags := 25, slot := 2, constantValue := 0 }]
  methods := #[k22m0, k22m1]
  instanceTypes := #[]
  staticTypes := #[(.object "java/util/function/BiFunction"), (.object "java/util/function/BiFunction"), (.object "java/util/function/BiFunction")]
  resolved := Array.replicate 194 none
  statics := some 2 }

def pool23 : Array CpInfo := pool [(6, .class_ 8), (1, u "java/lang/Object"), (0, u "<init>"), (0, u "()V"), (1, .class_ 14), (1, u "java/lang/StringUTF16"), (31, u "$assertionsDisabled"), (0, u "Z"), (13, u "HI_BYTE_SHIFT"), (0, u "I"), (2, u "LO_BYTE_SHIFT"), (49, .methodref 12 116), (0, .nameAndType 117 118), (0, u "compress"), (0, u "([CI[BII)I"), (3, u "([CII)[B"), (138, u "coderFromArrayLen"), (0, u "([BI)B"), (106, .class_ 371), (1, u "java/lang/StringUTF16$LinesSpliterator"), (58, u "MAX_LENGTH"), (196, .class_ 628), (0, u "java/lang/StringUTF16$CodePointsSpliterator"), (0, .class_ 630), (0, u "java/lang/StringUTF16$CharsSpliterator")] 4

def k23m0 : Method := { name := "<init>", desc := "()V", sig := { parameters := [], returnType := none }, accessFlags := 0, code := none }
def k23c1 : Code := { maxStack := 2, maxLocals := 2, code := jdk_52_method_15_code, exceptionTable := #[], attributes := #[] }
def k23m1 : Method := { name := "coderFromArrayLen", desc := "([BI)B", sig := { parameters := [(.array .byte), .int], returnType := some .byte }, accessFlags := 8, code := some k23c1 }
def k23c2 : Code := { maxStack := 5, maxLocals := 6, code := jdk_52_method_16_code, exceptionTable := #[], attributes := #[] }
def k23m2 : Method := { name := "compress", desc := "([CII)[B", sig := { parameters := [(.array .char), .int, .int], returnType := some (.array .byte) }, accessFlags := 9, code := some k23c2 }
def k23c3 : Code := { maxStack := 3, maxLocals := 7, code := jdk_52_method_21_code, exceptionTable := #[], attributes := #[] }
def k23m3 : Method := { name := "compress", desc := "([CI[BII)I", sig := { parameters := [(.array .char), .int, (.array .byte), .int, .int], returnType := some .int }, accessFlags := 9, code := some k23c3 }
/-- java/lang/StringUTF16 -/
def k23 : Class := { plain "java/lang/StringUTF16" (some 0) with
  accessFlags := 48
  interfaces := #[]
  cf := some (fileOf pool23 12 #[.nestMembers #[627, 629, 369]] #[{ accessFlags := 0, nameIndex := 9, descriptorIndex := 10, attributes := #[] }, { accessFlags := 8, nameIndex := 261, descriptorIndex := 262, attributes := #[] }, { accessFlags := 9, nameIndex := 117, descriptorIndex := 122, attributes := #[] }, { accessFlags := 9, nameIndex := 117, descriptorIndex := 118, attributes := #[] }] 48 6 #[] #[{ accessFlags := 26, nameIndex := 61, descriptorIndex := 62, attributes := #[] }, { accessFlags := 26, nameIndex := 65, descriptorIndex := 62, attributes := #[] }, { accessFlags := 24, nameIndex := 430, descriptorIndex := 62, attributes := #[] }, { accessFlags := 4120, nameIndex := 46, descriptorIndex := 47, attributes := #[] }])
  fields := #[{ name := "HI_BYTE_SHIFT", type := .int, accessFlags := 26, slot := 0, constantValue := 0 }, { name := "LO_BYTE_SHIFT", type := .int, accessFlags := 26, slot := 1, constantValue := 0 }, { name := "MAX_LENGTH", type := .int, accessFlags := 24, slot := 2, constantValue := 0 }, { name := "$assertionsDisabled", type := .boolean, accessFlags := 4120, slot := 3, constantValue := 0 }]
  methods := #[k23m0, k23m1, k23m2, k23m3]
  instanceTypes := #[]
  staticTypes := #[.int, .int, .int, .boolean]
  resolved := Array.replicate 635 none
  statics := none }

/-- the primitive byte -/
def k24 : Class := { plain "byte" none with kind := .primitive 'B', accessFlags := 0x411 }
/-- [B -/
def k25 : Class := { plain "[B" (some 0) with kind := .array 24 .byte, interfaces := #[10, 2], accessFlags := 1041 }

/-- the primitive char -/
def k26 : Class := { plain "char" none with kind := .primitive 'C', accessFlags := 0x411 }
/-- [C -/
def k27 : Class := { plain "[C" (some 0) with kind := .array 26 .char, interfaces := #[10, 2], accessFlags := 1041 }

/-- the primitive int -/
def k28 : Class := { plain "int" none with kind := .primitive 'I', accessFlags := 0x411 }
/-- [I -/
def k29 : Class := { plain "[I" (some 0) with kind := .array 28 .int, interfaces := #[10, 2], accessFlags := 1041 }

def heap : Heap := #[{ cls := 7, slots := #[.long 0, .int 1, .null, .int 0, .null, .int 0, .int 0], vm := .statics 7 },
  { cls := 19, slots := #[.int 0, .int 0, .null, .null, .ref 4, .ref 3, .int 0, .int 0, .long 0], vm := .statics 19 },
  { cls := 22, slots := #[.null, .null, .null], vm := .statics 22 },
  { cls := 25, slots := #[.int 48, .int 49, .int 50, .int 51, .int 52, .int 53, .int 54, .int 55, .int 56, .int 57, .int 48, .int 49, .int 50, .int 51, .int 52, .int 53, .int 54, .int 55, .int 56, .int 57, .int 48, .int 49, .int 50, .int 51, .int 52, .int 53, .int 54, .int 55, .int 56, .int 57, .int 48, .int 49, .int 50, .int 51, .int 52, .int 53, .int 54, .int 55, .int 56, .int 57, .int 48, .int 49, .int 50, .int 51, .int 52, .int 53, .int 54, .int 55, .int 56, .int 57, .int 48, .int 49, .int 50, .int 51, .int 52, .int 53, .int 54, .int 55, .int 56, .int 57, .int 48, .int 49, .int 50, .int 51, .int 52, .int 53, .int 54, .int 55, .int 56, .int 57, .int 48, .int 49, .int 50, .int 51, .int 52, .int 53, .int 54, .int 55, .int 56, .int 57, .int 48, .int 49, .int 50, .int 51, .int 52, .int 53, .int 54, .int 55, .int 56, .int 57, .int 48, .int 49, .int 50, .int 51, .int 52, .int 53, .int 54, .int 55, .int 56, .int 57], vm := .none },
  { cls := 25, slots := #[.int 48, .int 48, .int 48, .int 48, .int 48, .int 48, .int 48, .int 48, .int 48, .int 48, .int 49, .int 49, .int 49, .int 49, .int 49, .int 49, .int 49, .int 49, .int 49, .int 49, .int 50, .int 50, .int 50, .int 50, .int 50, .int 50, .int 50, .int 50, .int 50, .int 50, .int 51, .int 51, .int 51, .int 51, .int 51, .int 51, .int 51, .int 51, .int 51, .int 51, .int 52, .int 52, .int 52, .int 52, .int 52, .int 52, .int 52, .int 52, .int 52, .int 52, .int 53, .int 53, .int 53, .int 53, .int 53, .int 53, .int 53, .int 53, .int 53, .int 53, .int 54, .int 54, .int 54, .int 54, .int 54, .int 54, .int 54, .int 54, .int 54, .int 54, .int 55, .int 55, .int 55, .int 55, .int 55, .int 55, .int 55, .int 55, .int 55, .int 55, .int 56, .int 56, .int 56, .int 56, .int 56, .int 56, .int 56, .int 56, .int 56, .int 56, .int 57, .int 57, .int 57, .int 57, .int 57, .int 57, .int 57, .int 57, .int 57, .int 57], vm := .none }]
def classes : Array Class := #[k0, k1, k2, k3, k4, k5, k6, k7, k8, k9, k10, k11, k12, k13, k14, k15, k16, k17, k18, k19, k20, k21, k22, k23, k24, k25, k26, k27, k28, k29]
def interned : List (Array UInt16 × Addr) := []
def slotsUsed : Nat := 219
def theMethod : MethodId := ⟨1, 1⟩
def args0 : Array Value := #[.int 1, .int 2, .long 3, .int 4]
def aboutOver (below : List Frame) : State where
  vm := { classes := classes, interned := interned.toArray }
  heap := heap
  slotsUsed := slotsUsed
  threads := #[{ frames := .invoking theMethod args0 :: below }]
def below0 : List Frame := [.native { method := ⟨0, 0⟩, args := #[] }]
def about1 : State := aboutOver below0
def p0 : Program := .bare "" "" ""
def e0 : Env := launch0.env 0 0 0
theorem w_frames : about1.frames = Frame.invoking theMethod args0 :: below0 := rfl
set_option maxRecDepth 65536 in
theorem w_args : argsFit about1.vm theMethod args0 = true := by decide +kernel
set_option maxRecDepth 65536 in
theorem w_heap : heapFits about1 = true := by decide +kernel
set_option maxRecDepth 65536 in
theorem w_runnable : about1.curStatus? = some .runnable := by decide +kernel
set_option maxRecDepth 65536 in
theorem w_alone : about1.alone = true := by decide +kernel
set_option maxRecDepth 65536 in
theorem w_named : about1.methodNamed? x = some theMethod := by decide +kernel
set_option maxRecDepth 65536 in
theorem w_hears : about1.hears theMethod below0 = true := by decide +kernel
set_option maxRecDepth 65536 in
theorem w_ripe : about1.ripe theMethod args0 below0 = true := by decide +kernel
theorem w_running : about1.status = .running := rfl
set_option maxRecDepth 65536 in
theorem w_room : about1.hasRoom e0.platform room_1 = true :=
  launch0.hasRoom_least _ room_1 (by decide +kernel) (by decide +kernel) (by decide +kernel) (by decide +kernel) (by decide +kernel) (by decide +kernel)
theorem allAtoms_all (ts : List Jvm.Cond) (a : Array Jvm.Value) (st : Jvm.State) : (allAtoms ts).before a st = ts.all (fun c => c.before a st) := by
  induction ts with
  | nil => rfl
  | cons c t ih =>
    show (Jvm.Cond.and c (allAtoms t)).before a st = _
    rw [Jvm.Cond.before_and, ih, List.all_cons]
def words1 : List Jvm.Cond := Jvm.Cond.code x code maxLocals ret :: tables_1
/-- a 'code' word, met by the world's own term for the bytes: nothing is compared byte by byte -/
theorem code_word {y : MethodName} {bytes : ByteArray} {mx : Nat} {rt : Option FieldType} {a : Array Value} {s : State} {m : MethodId} {meth : Method} {c : Code} (h1 : s.methodNamed? y = some m) (h2 : s.vm.method? m = some meth) (h3 : meth.code = some c) (h4 : c.code = bytes)
    (h5 : (c.maxLocals == mx && c.exceptionTable.isEmpty && decide (c.maxStack ≤ mostOperands) && decide (meth.sig.returnType = rt) && !meth.locks && decide (parseMethodDescriptor y.desc = some meth.sig)) = true) : (Jvm.Cond.code y bytes mx rt).before a s = true := by
  simp only [Bool.and_eq_true, beq_iff_eq, Bool.not_eq_true', decide_eq_true_eq] at h5
  obtain ⟨⟨⟨⟨⟨g1, g2⟩, g3⟩, g4⟩, g5⟩, g6⟩ := h5
  simp [Cond.before, Cond.holds, Cond.value, h1, h2, h3, h4, g1, g2, g3, g4, g5, g6]
def isCode : Jvm.Cond → Bool
  | .code _ _ _ _ => true
  | _ => false
theorem all_split {L : List Jvm.Cond} {P : Jvm.Cond → Bool} (h1 : L.all (fun c => isCode c || P c) = true) (h2 : ∀ c ∈ L.filter isCode, P c = true) : L.all P = true := by
  refine List.all_eq_true.mpr fun c hc => ?_
  have h := List.all_eq_true.mp h1 c hc
  rcases Bool.eq_false_or_eq_true (isCode c) with hi | hi
  · exact h2 c (List.mem_filter.mpr ⟨hc, hi⟩)
  · simpa [hi] using h
set_option maxRecDepth 65536 in
theorem w_c0 : (Jvm.Cond.code x code maxLocals ret).before args0 about1 = true := code_word (m := ⟨1, 1⟩) (meth := k1m1) (c := k1c1) (by decide +kernel) rfl rfl rfl (by decide +kernel)
set_option maxRecDepth 65536 in
theorem w_c1 : (Jvm.Cond.code ({ cls := "com/example/campofelice/campofelice/Message", name := "<init>", desc := "(Ljava/lang/String;[BIJ)V" } : Jvm.MethodName) prog_13_method_1_code (6 : Nat) (Option.none : Option Jvm.ClassFile.FieldType)).before args0 about1 = true := code_word (m := ⟨8, 0⟩) (meth := k8m0) (c := k8c0) (by decide +kernel) rfl rfl rfl (by decide +kernel)
set_option maxRecDepth 65536 in
theorem w_c2 : (Jvm.Cond.code ({ cls := "java/lang/Object", name := "<init>", desc := "()V" } : Jvm.MethodName) object_method_1_code (1 : Nat) (Option.none : Option Jvm.ClassFile.FieldType)).before args0 about1 = true := code_word (m := ⟨0, 0⟩) (meth := k0m0) (c := k0c0) (by decide +kernel) rfl rfl rfl (by decide +kernel)
set_option maxRecDepth 65536 in
theorem w_c3 : (Jvm.Cond.code ({ cls := "java/util/Objects", name := "requireNonNull", desc := "(Ljava/lang/Object;Ljava/lang/String;)Ljava/lang/Object;" } : Jvm.MethodName) jdk_31_method_11_code (2 : Nat) (Option.some (Jvm.ClassFile.FieldType.object "java/lang/Object"))).before args0 about1 = true := code_word (m := ⟨9, 1⟩) (meth := k9m1) (c := k9c1) (by decide +kernel) rfl rfl rfl (by decide +kernel)
set_option maxRecDepth 65536 in
theorem w_c4 : (Jvm.Cond.code ({ cls := "com/example/campofelice/campofelice/Message", name := "toString", desc := "()Ljava/lang/String;" } : Jvm.MethodName) prog_13_method_6_code (1 : Nat) (Option.some (Jvm.ClassFile.FieldType.object "java/lang/String"))).before args0 about1 = true := code_word (m := ⟨8, 1⟩) (meth := k8m1) (c := k8c1) (by decide +kernel) rfl rfl rfl (by decide +kernel)
set_option maxRecDepth 65536 in
theorem w_c5 : (Jvm.Cond.code ({ cls := "java/lang/StringBuilder", name := "<init>", desc := "()V" } : Jvm.MethodName) jdk_67_method_1_code (1 : Nat) (Option.none : Option Jvm.ClassFile.FieldType)).before args0 about1 = true := code_word (m := ⟨13, 0⟩) (meth := k13m0) (c := k13c0) (by decide +kernel) rfl rfl rfl (by decide +kernel)
set_option maxRecDepth 65536 in
theorem w_c6 : (Jvm.Cond.code ({ cls := "java/lang/AbstractStringBuilder", name := "<init>", desc := "(I)V" } : Jvm.MethodName) jdk_68_method_2_code (2 : Nat) (Option.none : Option Jvm.ClassFile.FieldType)).before args0 about1 = true := code_word (m := ⟨12, 1⟩) (meth := k12m1) (c := k12c1) (by decide +kernel) rfl rfl rfl (by decide +kernel)
set_option maxRecDepth 65536 in
theorem w_c7 : (Jvm.Cond.code ({ cls := "java/lang/StringBuilder", name := "append", desc := "(Ljava/lang/String;)Ljava/lang/StringBuilder;" } : Jvm.MethodName) jdk_67_method_7_code (2 : Nat) (Option.some (Jvm.ClassFile.FieldType.object "java/lang/StringBuilder"))).before args0 about1 = true := code_word (m := ⟨13, 1⟩) (meth := k13m1) (c := k13c1) (by decide +kernel) rfl rfl rfl (by decide +kernel)
set_option maxRecDepth 65536 in
theorem w_c8 : (Jvm.Cond.code ({ cls := "java/lang/AbstractStringBuilder", name := "append", desc := "(Ljava/lang/String;)Ljava/lang/AbstractStringBuilder;" } : Jvm.MethodName) jdk_68_method_22_code (3 : Nat) (Option.some (Jvm.ClassFile.FieldType.object "java/lang/AbstractStringBuilder"))).before args0 about1 = true := code_word (m := ⟨12, 5⟩) (meth := k12m5) (c := k12c5) (by decide +kernel) rfl rfl rfl (by decide +kernel)
set_option maxRecDepth 65536 in
theorem w_c9 : (Jvm.Cond.code ({ cls := "java/lang/String", name := "length", desc := "()I" } : Jvm.MethodName) jdk_42_method_54_code (1 : Nat) (Option.some Jvm.ClassFile.FieldType.int)).before args0 about1 = true := code_word (m := ⟨7, 3⟩) (meth := k7m3) (c := k7c3) (by decide +kernel) rfl rfl rfl (by decide +kernel)
set_option maxRecDepth 65536 in
theorem w_c10 : (Jvm.Cond.code ({ cls := "java/lang/String", name := "coder", desc := "()B" } : Jvm.MethodName) jdk_42_method_152_code (1 : Nat) (Option.some Jvm.ClassFile.FieldType.byte)).before args0 about1 = true := code_word (m := ⟨7, 10⟩) (meth := k7m10) (c := k7c10) (by decide +kernel) rfl rfl rfl (by decide +kernel)
set_option maxRecDepth 65536 in
theorem w_c11 : (Jvm.Cond.code ({ cls := "java/lang/AbstractStringBuilder", name := "ensureCapacityInternal", desc := "(I)V" } : Jvm.MethodName) jdk_68_method_9_code (3 : Nat) (Option.none : Option Jvm.ClassFile.FieldType)).before args0 about1 = true := code_word (m := ⟨12, 3⟩) (meth := k12m3) (c := k12c3) (by decide +kernel) rfl rfl rfl (by decide +kernel)
set_option maxRecDepth 65536 in
theorem w_c12 : (Jvm.Cond.code ({ cls := "java/lang/AbstractStringBuilder", name := "putStringAt", desc := "(ILjava/lang/String;)V" } : Jvm.MethodName) jdk_68_method_73_code (3 : Nat) (Option.none : Option Jvm.ClassFile.FieldType)).before args0 about1 = true := code_word (m := ⟨12, 11⟩) (meth := k12m11) (c := k12c11) (by decide +kernel) rfl rfl rfl (by decide +kernel)
set_option maxRecDepth 65536 in
theorem w_c13 : (Jvm.Cond.code ({ cls := "java/lang/AbstractStringBuilder", name := "inflateIfNeededFor", desc := "(Ljava/lang/String;)V" } : Jvm.MethodName) jdk_68_method_71_code (2 : Nat) (Option.none : Option Jvm.ClassFile.FieldType)).before args0 about1 = true := code_word (m := ⟨12, 10⟩) (meth := k12m10) (c := k12c10) (by decide +kernel) rfl rfl rfl (by decide +kernel)
set_option maxRecDepth 65536 in
theorem w_c14 : (Jvm.Cond.code ({ cls := "java/lang/String", name := "getBytes", desc := "([BIB)V" } : Jvm.MethodName) jdk_42_method_147_code (4 : Nat) (Option.none : Option Jvm.ClassFile.FieldType)).before args0 about1 = true := code_word (m := ⟨7, 6⟩) (meth := k7m6) (c := k7c6) (by decide +kernel) rfl rfl rfl (by decide +kernel)
set_option maxRecDepth 65536 in
theorem w_c15 : (Jvm.Cond.code ({ cls := "java/lang/AbstractStringBuilder", name := "newCapacity", desc := "(I)I" } : Jvm.MethodName) jdk_68_method_10_code (6 : Nat) (Option.some Jvm.ClassFile.FieldType.int)).before args0 about1 = true := code_word (m := ⟨12, 4⟩) (meth := k12m4) (c := k12c4) (by decide +kernel) rfl rfl rfl (by decide +kernel)
set_option maxRecDepth 65536 in
theorem w_c16 : (Jvm.Cond.code ({ cls := "jdk/internal/util/ArraysSupport", name := "newLength", desc := "(III)I" } : Jvm.MethodName) jdk_48_method_27_code (4 : Nat) (Option.some Jvm.ClassFile.FieldType.int)).before args0 about1 = true := code_word (m := ⟨15, 1⟩) (meth := k15m1) (c := k15c1) (by decide +kernel) rfl rfl rfl (by decide +kernel)
set_option maxRecDepth 65536 in
theorem w_c17 : (Jvm.Cond.code ({ cls := "java/lang/Math", name := "max", desc := "(II)I" } : Jvm.MethodName) jdk_29_method_65_code (2 : Nat) (Option.some Jvm.ClassFile.FieldType.int)).before args0 about1 = true := code_word (m := ⟨16, 2⟩) (meth := k16m2) (c := k16c2) (by decide +kernel) rfl rfl rfl (by decide +kernel)
set_option maxRecDepth 65536 in
theorem w_c18 : (Jvm.Cond.code ({ cls := "java/util/Arrays", name := "copyOf", desc := "([BI)[B" } : Jvm.MethodName) jdk_65_method_121_code (3 : Nat) (Option.some (Jvm.ClassFile.FieldType.array Jvm.ClassFile.FieldType.byte))).before args0 about1 = true := code_word (m := ⟨17, 1⟩) (meth := k17m1) (c := k17c1) (by decide +kernel) rfl rfl rfl (by decide +kernel)
set_option maxRecDepth 65536 in
theorem w_c19 : (Jvm.Cond.code ({ cls := "java/lang/Math", name := "min", desc := "(II)I" } : Jvm.MethodName) jdk_29_method_69_code (2 : Nat) (Option.some Jvm.ClassFile.FieldType.int)).before args0 about1 = true := code_word (m := ⟨16, 3⟩) (meth := k16m3) (c := k16c3) (by decide +kernel) rfl rfl rfl (by decide +kernel)
set_option maxRecDepth 65536 in
theorem w_c20 : (Jvm.Cond.code ({ cls := "java/lang/StringBuilder", name := "append", desc := "(I)Ljava/lang/StringBuilder;" } : Jvm.MethodName) jdk_67_method_15_code (2 : Nat) (Option.some (Jvm.ClassFile.FieldType.object "java/lang/StringBuilder"))).before args0 about1 = true := code_word (m := ⟨13, 2⟩) (meth := k13m2) (c := k13c2) (by decide +kernel) rfl rfl rfl (by decide +kernel)
set_option maxRecDepth 65536 in
theorem w_c21 : (Jvm.Cond.code ({ cls := "java/lang/AbstractStringBuilder", name := "append", desc := "(I)Ljava/lang/AbstractStringBuilder;" } : Jvm.MethodName) jdk_68_method_32_code (4 : Nat) (Option.some (Jvm.ClassFile.FieldType.object "java/lang/AbstractStringBuilder"))).before args0 about1 = true := code_word (m := ⟨12, 6⟩) (meth := k12m6) (c := k12c6) (by decide +kernel) rfl rfl rfl (by decide +kernel)
set_option maxRecDepth 65536 in
theorem w_c22 : (Jvm.Cond.code ({ cls := "java/lang/Integer", name := "stringSize", desc := "(I)I" } : Jvm.MethodName) jdk_33_method_13_code (4 : Nat) (Option.some Jvm.ClassFile.FieldType.int)).before args0 about1 = true := code_word (m := ⟨19, 1⟩) (meth := k19m1) (c := k19c1) (by decide +kernel) rfl rfl rfl (by decide +kernel)
set_option maxRecDepth 65536 in
theorem w_c23 : (Jvm.Cond.code ({ cls := "java/lang/AbstractStringBuilder", name := "isLatin1", desc := "()Z" } : Jvm.MethodName) jdk_68_method_68_code (1 : Nat) (Option.some Jvm.ClassFile.FieldType.boolean)).before args0 about1 = true := code_word (m := ⟨12, 9⟩) (meth := k12m9) (c := k12c9) (by decide +kernel) rfl rfl rfl (by decide +kernel)
set_option maxRecDepth 65536 in
theorem w_c24 : (Jvm.Cond.code ({ cls := "java/lang/Integer", name := "getChars", desc := "(II[B)I" } : Jvm.MethodName) jdk_33_method_12_code (7 : Nat) (Option.some Jvm.ClassFile.FieldType.int)).before args0 about1 = true := code_word (m := ⟨19, 0⟩) (meth := k19m0) (c := k19c0) (by decide +kernel) rfl rfl rfl (by decide +kernel)
set_option maxRecDepth 65536 in
theorem w_c25 : (Jvm.Cond.code ({ cls := "java/lang/StringBuilder", name := "append", desc := "(J)Ljava/lang/StringBuilder;" } : Jvm.MethodName) jdk_67_method_16_code (3 : Nat) (Option.some (Jvm.ClassFile.FieldType.object "java/lang/StringBuilder"))).before args0 about1 = true := code_word (m := ⟨13, 3⟩) (meth := k13m3) (c := k13c3) (by decide +kernel) rfl rfl rfl (by decide +kernel)
set_option maxRecDepth 65536 in
theorem w_c26 : (Jvm.Cond.code ({ cls := "java/lang/AbstractStringBuilder", name := "append", desc := "(J)Ljava/lang/AbstractStringBuilder;" } : Jvm.MethodName) jdk_68_method_33_code (5 : Nat) (Option.some (Jvm.ClassFile.FieldType.object "java/lang/AbstractStringBuilder"))).before args0 about1 = true := code_word (m := ⟨12, 7⟩) (meth := k12m7) (c := k12c7) (by decide +kernel) rfl rfl rfl (by decide +kernel)
set_option maxRecDepth 65536 in
theorem w_c27 : (Jvm.Cond.code ({ cls := "java/lang/Long", name := "stringSize", desc := "(J)I" } : Jvm.MethodName) jdk_35_method_15_code (6 : Nat) (Option.some Jvm.ClassFile.FieldType.int)).before args0 about1 = true := code_word (m := ⟨20, 1⟩) (meth := k20m1) (c := k20c1) (by decide +kernel) rfl rfl rfl (by decide +kernel)
set_option maxRecDepth 65536 in
theorem w_c28 : (Jvm.Cond.code ({ cls := "java/lang/Long", name := "getChars", desc := "(JI[B)I" } : Jvm.MethodName) jdk_35_method_14_code (11 : Nat) (Option.some Jvm.ClassFile.FieldType.int)).before args0 about1 = true := code_word (m := ⟨20, 0⟩) (meth := k20m0) (c := k20c0) (by decide +kernel) rfl rfl rfl (by decide +kernel)
set_option maxRecDepth 65536 in
theorem w_c29 : (Jvm.Cond.code ({ cls := "java/lang/StringBuilder", name := "toString", desc := "()Ljava/lang/String;" } : Jvm.MethodName) jdk_67_method_42_code (1 : Nat) (Option.some (Jvm.ClassFile.FieldType.object "java/lang/String"))).before args0 about1 = true := code_word (m := ⟨13, 4⟩) (meth := k13m4) (c := k13c4) (by decide +kernel) rfl rfl rfl (by decide +kernel)
set_option maxRecDepth 65536 in
theorem w_c30 : (Jvm.Cond.code ({ cls := "java/lang/String", name := "<init>", desc := "(Ljava/lang/StringBuilder;)V" } : Jvm.MethodName) jdk_42_method_53_code (2 : Nat) (Option.none : Option Jvm.ClassFile.FieldType)).before args0 about1 = true := code_word (m := ⟨7, 2⟩) (meth := k7m2) (c := k7c2) (by decide +kernel) rfl rfl rfl (by decide +kernel)
set_option maxRecDepth 65536 in
theorem w_c31 : (Jvm.Cond.code ({ cls := "java/lang/String", name := "<init>", desc := "(Ljava/lang/AbstractStringBuilder;Ljava/lang/Void;)V" } : Jvm.MethodName) jdk_42_method_150_code (5 : Nat) (Option.none : Option Jvm.ClassFile.FieldType)).before args0 about1 = true := code_word (m := ⟨7, 8⟩) (meth := k7m8) (c := k7c8) (by decide +kernel) rfl rfl rfl (by decide +kernel)
set_option maxRecDepth 65536 in
theorem w_c32 : (Jvm.Cond.code ({ cls := "java/lang/AbstractStringBuilder", name := "getValue", desc := "()[B" } : Jvm.MethodName) jdk_68_method_64_code (1 : Nat) (Option.some (Jvm.ClassFile.FieldType.array Jvm.ClassFile.FieldType.byte))).before args0 about1 = true := code_word (m := ⟨12, 8⟩) (meth := k12m8) (c := k12c8) (by decide +kernel) rfl rfl rfl (by decide +kernel)
set_option maxRecDepth 65536 in
theorem w_c33 : (Jvm.Cond.code ({ cls := "java/lang/StringBuilder", name := "length", desc := "()I" } : Jvm.MethodName) jdk_67_method_93_code (1 : Nat) (Option.some Jvm.ClassFile.FieldType.int)).before args0 about1 = true := code_word (m := ⟨13, 5⟩) (meth := k13m5) (c := k13c5) (by decide +kernel) rfl rfl rfl (by decide +kernel)
set_option maxRecDepth 65536 in
theorem w_c34 : (Jvm.Cond.code ({ cls := "java/lang/AbstractStringBuilder", name := "length", desc := "()I" } : Jvm.MethodName) jdk_68_method_6_code (1 : Nat) (Option.some Jvm.ClassFile.FieldType.int)).before args0 about1 = true := code_word (m := ⟨12, 2⟩) (meth := k12m2) (c := k12c2) (by decide +kernel) rfl rfl rfl (by decide +kernel)
set_option maxRecDepth 65536 in
theorem w_c35 : (Jvm.Cond.code ({ cls := "java/util/Arrays", name := "copyOfRange", desc := "([BII)[B" } : Jvm.MethodName) jdk_65_method_132_code (3 : Nat) (Option.some (Jvm.ClassFile.FieldType.array Jvm.ClassFile.FieldType.byte))).before args0 about1 = true := code_word (m := ⟨17, 3⟩) (meth := k17m3) (c := k17c3) (by decide +kernel) rfl rfl rfl (by decide +kernel)
set_option maxRecDepth 65536 in
theorem w_c36 : (Jvm.Cond.code ({ cls := "java/util/Arrays", name := "copyOfRangeByte", desc := "([BII)[B" } : Jvm.MethodName) jdk_65_method_133_code (5 : Nat) (Option.some (Jvm.ClassFile.FieldType.array Jvm.ClassFile.FieldType.byte))).before args0 about1 = true := code_word (m := ⟨17, 4⟩) (meth := k17m4) (c := k17c4) (by decide +kernel) rfl rfl rfl (by decide +kernel)
set_option maxRecDepth 65536 in
theorem w_c37 : (Jvm.Cond.code ({ cls := "java/util/Arrays", name := "checkLength", desc := "(II)V" } : Jvm.MethodName) jdk_65_method_131_code (2 : Nat) (Option.none : Option Jvm.ClassFile.FieldType)).before args0 about1 = true := code_word (m := ⟨17, 2⟩) (meth := k17m2) (c := k17c2) (by decide +kernel) rfl rfl rfl (by decide +kernel)
set_option maxRecDepth 65536 in
theorem w_c38 : (Jvm.Cond.code ({ cls := "com/example/campofelice/campofelice/MessageToStringPinLaw", name := "lit", desc := "(Ljava/lang/String;ILjava/lang/String;)I" } : Jvm.MethodName) method_4_code (3 : Nat) (Option.some Jvm.ClassFile.FieldType.int)).before args0 about1 = true := code_word (m := ⟨1, 3⟩) (meth := k1m3) (c := k1c3) (by decide +kernel) rfl rfl rfl (by decide +kernel)
set_option maxRecDepth 65536 in
theorem w_c39 : (Jvm.Cond.code ({ cls := "com/example/campofelice/campofelice/MessageToStringPinLaw", name := "c", desc := "(Ljava/lang/String;ILjava/lang/String;I)I" } : Jvm.MethodName) method_3_code (4 : Nat) (Option.some Jvm.ClassFile.FieldType.int)).before args0 about1 = true := code_word (m := ⟨1, 2⟩) (meth := k1m2) (c := k1c2) (by decide +kernel) rfl rfl rfl (by decide +kernel)
set_option maxRecDepth 65536 in
theorem w_c40 : (Jvm.Cond.code ({ cls := "java/lang/String", name := "charAt", desc := "(I)C" } : Jvm.MethodName) jdk_42_method_56_code (2 : Nat) (Option.some Jvm.ClassFile.FieldType.char)).before args0 about1 = true := code_word (m := ⟨7, 4⟩) (meth := k7m4) (c := k7c4) (by decide +kernel) rfl rfl rfl (by decide +kernel)
set_option maxRecDepth 65536 in
theorem w_c41 : (Jvm.Cond.code ({ cls := "java/lang/String", name := "isLatin1", desc := "()Z" } : Jvm.MethodName) jdk_42_method_154_code (1 : Nat) (Option.some Jvm.ClassFile.FieldType.boolean)).before args0 about1 = true := code_word (m := ⟨7, 11⟩) (meth := k7m11) (c := k7c11) (by decide +kernel) rfl rfl rfl (by decide +kernel)
set_option maxRecDepth 65536 in
theorem w_c42 : (Jvm.Cond.code ({ cls := "java/lang/StringLatin1", name := "charAt", desc := "([BI)C" } : Jvm.MethodName) jdk_43_method_2_code (2 : Nat) (Option.some Jvm.ClassFile.FieldType.char)).before args0 about1 = true := code_word (m := ⟨21, 1⟩) (meth := k21m1) (c := k21c1) (by decide +kernel) rfl rfl rfl (by decide +kernel)
set_option maxRecDepth 65536 in
theorem w_c43 : (Jvm.Cond.code ({ cls := "java/lang/String", name := "checkIndex", desc := "(II)V" } : Jvm.MethodName) jdk_42_method_155_code (2 : Nat) (Option.none : Option Jvm.ClassFile.FieldType)).before args0 about1 = true := code_word (m := ⟨7, 12⟩) (meth := k7m12) (c := k7c12) (by decide +kernel) rfl rfl rfl (by decide +kernel)
set_option maxRecDepth 65536 in
theorem w_c44 : (Jvm.Cond.code ({ cls := "jdk/internal/util/Preconditions", name := "checkIndex", desc := "(IILjava/util/function/BiFunction;)I" } : Jvm.MethodName) jdk_41_method_11_code (3 : Nat) (Option.some Jvm.ClassFile.FieldType.int)).before args0 about1 = true := code_word (m := ⟨22, 1⟩) (meth := k22m1) (c := k22c1) (by decide +kernel) rfl rfl rfl (by decide +kernel)
set_option maxRecDepth 65536 in
theorem w_c45 : (Jvm.Cond.code ({ cls := "com/example/campofelice/campofelice/MessageToStringPinLaw", name := "num", desc := "(Ljava/lang/String;IJ)I" } : Jvm.MethodName) method_6_code (4 : Nat) (Option.some Jvm.ClassFile.FieldType.int)).before args0 about1 = true := code_word (m := ⟨1, 5⟩) (meth := k1m5) (c := k1c5) (by decide +kernel) rfl rfl rfl (by decide +kernel)
set_option maxRecDepth 65536 in
theorem w_c46 : (Jvm.Cond.code ({ cls := "com/example/campofelice/campofelice/MessageToStringPinLaw", name := "d", desc := "(Ljava/lang/String;IJJ)I" } : Jvm.MethodName) method_5_code (9 : Nat) (Option.some Jvm.ClassFile.FieldType.int)).before args0 about1 = true := code_word (m := ⟨1, 4⟩) (meth := k1m4) (c := k1c4) (by decide +kernel) rfl rfl rfl (by decide +kernel)
set_option maxRecDepth 65536 in
theorem w_c47 : (Jvm.Cond.code ({ cls := "java/lang/Math", name := "abs", desc := "(J)J" } : Jvm.MethodName) jdk_29_method_61_code (2 : Nat) (Option.some Jvm.ClassFile.FieldType.long)).before args0 about1 = true := code_word (m := ⟨16, 1⟩) (meth := k16m1) (c := k16c1) (by decide +kernel) rfl rfl rfl (by decide +kernel)
set_option maxRecDepth 65536 in
theorem w_c48 : (Jvm.Cond.code ({ cls := "java/lang/String", name := "<init>", desc := "([C)V" } : Jvm.MethodName) jdk_42_method_3_code (2 : Nat) (Option.none : Option Jvm.ClassFile.FieldType)).before args0 about1 = true := code_word (m := ⟨7, 1⟩) (meth := k7m1) (c := k7c1) (by decide +kernel) rfl rfl rfl (by decide +kernel)
set_option maxRecDepth 65536 in
theorem w_c49 : (Jvm.Cond.code ({ cls := "java/lang/String", name := "<init>", desc := "([CIILjava/lang/Void;)V" } : Jvm.MethodName) jdk_42_method_149_code (6 : Nat) (Option.none : Option Jvm.ClassFile.FieldType)).before args0 about1 = true := code_word (m := ⟨7, 7⟩) (meth := k7m7) (c := k7c7) (by decide +kernel) rfl rfl rfl (by decide +kernel)
set_option maxRecDepth 65536 in
theorem w_c50 : (Jvm.Cond.code ({ cls := "java/lang/StringUTF16", name := "compress", desc := "([CII)[B" } : Jvm.MethodName) jdk_52_method_16_code (6 : Nat) (Option.some (Jvm.ClassFile.FieldType.array Jvm.ClassFile.FieldType.byte))).before args0 about1 = true := code_word (m := ⟨23, 2⟩) (meth := k23m2) (c := k23c2) (by decide +kernel) rfl rfl rfl (by decide +kernel)
set_option maxRecDepth 65536 in
theorem w_c51 : (Jvm.Cond.code ({ cls := "java/lang/StringUTF16", name := "compress", desc := "([CI[BII)I" } : Jvm.MethodName) jdk_52_method_21_code (7 : Nat) (Option.some Jvm.ClassFile.FieldType.int)).before args0 about1 = true := code_word (m := ⟨23, 3⟩) (meth := k23m3) (c := k23c3) (by decide +kernel) rfl rfl rfl (by decide +kernel)
set_option maxRecDepth 65536 in
theorem w_c52 : (Jvm.Cond.code ({ cls := "java/lang/StringUTF16", name := "coderFromArrayLen", desc := "([BI)B" } : Jvm.MethodName) jdk_52_method_15_code (2 : Nat) (Option.some Jvm.ClassFile.FieldType.byte)).before args0 about1 = true := code_word (m := ⟨23, 1⟩) (meth := k23m1) (c := k23c1) (by decide +kernel) rfl rfl rfl (by decide +kernel)
set_option maxRecDepth 65536 in
theorem w_c53 : (Jvm.Cond.code ({ cls := "java/lang/String", name := "valueOf", desc := "(C)Ljava/lang/String;" } : Jvm.MethodName) jdk_42_method_139_code (1 : Nat) (Option.some (Jvm.ClassFile.FieldType.object "java/lang/String"))).before args0 about1 = true := code_word (m := ⟨7, 5⟩) (meth := k7m5) (c := k7c5) (by decide +kernel) rfl rfl rfl (by decide +kernel)
set_option maxRecDepth 65536 in
theorem w_c54 : (Jvm.Cond.code ({ cls := "java/lang/StringLatin1", name := "canEncode", desc := "(C)Z" } : Jvm.MethodName) jdk_43_method_3_code (1 : Nat) (Option.some Jvm.ClassFile.FieldType.boolean)).before args0 about1 = true := code_word (m := ⟨21, 2⟩) (meth := k21m2) (c := k21c2) (by decide +kernel) rfl rfl rfl (by decide +kernel)
set_option maxRecDepth 65536 in
theorem w_c55 : (Jvm.Cond.code ({ cls := "java/lang/StringLatin1", name := "toBytes", desc := "(C)[B" } : Jvm.MethodName) jdk_43_method_46_code (1 : Nat) (Option.some (Jvm.ClassFile.FieldType.array Jvm.ClassFile.FieldType.byte))).before args0 about1 = true := code_word (m := ⟨21, 3⟩) (meth := k21m3) (c := k21c3) (by decide +kernel) rfl rfl rfl (by decide +kernel)
set_option maxRecDepth 65536 in
theorem w_c56 : (Jvm.Cond.code ({ cls := "java/lang/String", name := "<init>", desc := "([BB)V" } : Jvm.MethodName) jdk_42_method_151_code (3 : Nat) (Option.none : Option Jvm.ClassFile.FieldType)).before args0 about1 = true := code_word (m := ⟨7, 9⟩) (meth := k7m9) (c := k7c9) (by decide +kernel) rfl rfl rfl (by decide +kernel)
def codes1 : List Jvm.Cond := [Jvm.Cond.code x code maxLocals ret, Jvm.Cond.code ({ cls := "com/example/campofelice/campofelice/Message", name := "<init>", desc := "(Ljava/lang/String;[BIJ)V" } : Jvm.MethodName) prog_13_method_1_code (6 : Nat) (Option.none : Option Jvm.ClassFile.FieldType), Jvm.Cond.code ({ cls := "java/lang/Object", name := "<init>", desc := "()V" } : Jvm.MethodName) object_method_1_code (1 : Nat) (Option.none : Option Jvm.ClassFile.FieldType), Jvm.Cond.code ({ cls := "java/util/Objects", name := "requireNonNull", desc := "(Ljava/lang/Object;Ljava/lang/String;)Ljava/lang/Object;" } : Jvm.MethodName) jdk_31_method_11_code (2 : Nat) (Option.some (Jvm.ClassFile.FieldType.object "java/lang/Object")), Jvm.Cond.code ({ cls := "com/example/campofelice/campofelice/Message", name := "toString", desc := "()Ljava/lang/String;" } : Jvm.MethodName) prog_13_method_6_code (1 : Nat) (Option.some (Jvm.ClassFile.FieldType.object "java/lang/String")), Jvm.Cond.code ({ cls := "java/lang/StringBuilder", name := "<init>", desc := "()V" } : Jvm.MethodName) jdk_67_method_1_code (1 : Nat) (Option.none : Option Jvm.ClassFile.FieldType), Jvm.Cond.code ({ cls := "java/lang/AbstractStringBuilder", name := "<init>", desc := "(I)V" } : Jvm.MethodName) jdk_68_method_2_code (2 : Nat) (Option.none : Option Jvm.ClassFile.FieldType), Jvm.Cond.code ({ cls := "java/lang/StringBuilder", name := "append", desc := "(Ljava/lang/String;)Ljava/lang/StringBuilder;" } : Jvm.MethodName) jdk_67_method_7_code (2 : Nat) (Option.some (Jvm.ClassFile.FieldType.object "java/lang/StringBuilder")), Jvm.Cond.code ({ cls := "java/lang/AbstractStringBuilder", name := "append", desc := "(Ljava/lang/String;)Ljava/lang/AbstractStringBuilder;" } : Jvm.MethodName) jdk_68_method_22_code (3 : Nat) (Option.some (Jvm.ClassFile.FieldType.object "java/lang/AbstractStringBuilder")), Jvm.Cond.code ({ cls := "java/lang/String", name := "length", desc := "()I" } : Jvm.MethodName) jdk_42_method_54_code (1 : Nat) (Option.some Jvm.ClassFile.FieldType.int), Jvm.Cond.code ({ cls := "java/lang/String", name := "coder", desc := "()B" } : Jvm.MethodName) jdk_42_method_152_code (1 : Nat) (Option.some Jvm.ClassFile.FieldType.byte), Jvm.Cond.code ({ cls := "java/lang/AbstractStringBuilder", name := "ensureCapacityInternal", desc := "(I)V" } : Jvm.MethodName) jdk_68_method_9_code (3 : Nat) (Option.none : Option Jvm.ClassFile.FieldType), Jvm.Cond.code ({ cls := "java/lang/AbstractStringBuilder", name := "putStringAt", desc := "(ILjava/lang/String;)V" } : Jvm.MethodName) jdk_68_method_73_code (3 : Nat) (Option.none : Option Jvm.ClassFile.FieldType), Jvm.Cond.code ({ cls := "java/lang/AbstractStringBuilder", name := "inflateIfNeededFor", desc := "(Ljava/lang/String;)V" } : Jvm.MethodName) jdk_68_method_71_code (2 : Nat) (Option.none : Option Jvm.ClassFile.FieldType), Jvm.Cond.code ({ cls := "java/lang/String", name := "getBytes", desc := "([BIB)V" } : Jvm.MethodName) jdk_42_method_147_code (4 : Nat) (Option.none : Option Jvm.ClassFile.FieldType), Jvm.Cond.code ({ cls := "java/lang/AbstractStringBuilder", name := "newCapacity", desc := "(I)I" } : Jvm.MethodName) jdk_68_method_10_code (6 : Nat) (Option.some Jvm.ClassFile.FieldType.int), Jvm.Cond.code ({ cls := "jdk/internal/util/ArraysSupport", name := "newLength", desc := "(III)I" } : Jvm.MethodName) jdk_48_method_27_code (4 : Nat) (Option.some Jvm.ClassFile.FieldType.int), Jvm.Cond.code ({ cls := "java/lang/Math", name := "max", desc := "(II)I" } : Jvm.MethodName) jdk_29_method_65_code (2 : Nat) (Option.some Jvm.ClassFile.FieldType.int), Jvm.Cond.code ({ cls := "java/util/Arrays", name := "copyOf", desc := "([BI)[B" } : Jvm.MethodName) jdk_65_method_121_code (3 : Nat) (Option.some (Jvm.ClassFile.FieldType.array Jvm.ClassFile.FieldType.byte)), Jvm.Cond.code ({ cls := "java/lang/Math", name := "min", desc := "(II)I" } : Jvm.MethodName) jdk_29_method_69_code (2 : Nat) (Option.some Jvm.ClassFile.FieldType.int), Jvm.Cond.code ({ cls := "java/lang/StringBuilder", name := "append", desc := "(I)Ljava/lang/StringBuilder;" } : Jvm.MethodName) jdk_67_method_15_code (2 : Nat) (Option.some (Jvm.ClassFile.FieldType.object "java/lang/StringBuilder")), Jvm.Cond.code ({ cls := "java/lang/AbstractStringBuilder", name := "append", desc := "(I)Ljava/lang/AbstractStringBuilder;" } : Jvm.MethodName) jdk_68_method_32_code (4 : Nat) (Option.some (Jvm.ClassFile.FieldType.object "java/lang/AbstractStringBuilder")), Jvm.Cond.code ({ cls := "java/lang/Integer", name := "stringSize", desc := "(I)I" } : Jvm.MethodName) jdk_33_method_13_code (4 : Nat) (Option.some Jvm.ClassFile.FieldType.int), Jvm.Cond.code ({ cls := "java/lang/AbstractStringBuilder", name := "isLatin1", desc := "()Z" } : Jvm.MethodName) jdk_68_method_68_code (1 : Nat) (Option.some Jvm.ClassFile.FieldType.boolean), Jvm.Cond.code ({ cls := "java/lang/Integer", name := "getChars", desc := "(II[B)I" } : Jvm.MethodName) jdk_33_method_12_code (7 : Nat) (Option.some Jvm.ClassFile.FieldType.int), Jvm.Cond.code ({ cls := "java/lang/StringBuilder", name := "append", desc := "(J)Ljava/lang/StringBuilder;" } : Jvm.MethodName) jdk_67_method_16_code (3 : Nat) (Option.some (Jvm.ClassFile.FieldType.object "java/lang/StringBuilder")), Jvm.Cond.code ({ cls := "java/lang/AbstractStringBuilder", name := "append", desc := "(J)Ljava/lang/AbstractStringBuilder;" } : Jvm.MethodName) jdk_68_method_33_code (5 : Nat) (Option.some (Jvm.ClassFile.FieldType.object "java/lang/AbstractStringBuilder")), Jvm.Cond.code ({ cls := "java/lang/Long", name := "stringSize", desc := "(J)I" } : Jvm.MethodName) jdk_35_method_15_code (6 : Nat) (Option.some Jvm.ClassFile.FieldType.int), Jvm.Cond.code ({ cls := "java/lang/Long", name := "getChars", desc := "(JI[B)I" } : Jvm.MethodName) jdk_35_method_14_code (11 : Nat) (Option.some Jvm.ClassFile.FieldType.int), Jvm.Cond.code ({ cls := "java/lang/StringBuilder", name := "toString", desc := "()Ljava/lang/String;" } : Jvm.MethodName) jdk_67_method_42_code (1 : Nat) (Option.some (Jvm.ClassFile.FieldType.object "java/lang/String")), Jvm.Cond.code ({ cls := "java/lang/String", name := "<init>", desc := "(Ljava/lang/StringBuilder;)V" } : Jvm.MethodName) jdk_42_method_53_code (2 : Nat) (Option.none : Option Jvm.ClassFile.FieldType), Jvm.Cond.code ({ cls := "java/lang/String", name := "<init>", desc := "(Ljava/lang/AbstractStringBuilder;Ljava/lang/Void;)V" } : Jvm.MethodName) jdk_42_method_150_code (5 : Nat) (Option.none : Option Jvm.ClassFile.FieldType), Jvm.Cond.code ({ cls := "java/lang/AbstractStringBuilder", name := "getValue", desc := "()[B" } : Jvm.MethodName) jdk_68_method_64_code (1 : Nat) (Option.some (Jvm.ClassFile.FieldType.array Jvm.ClassFile.FieldType.byte)), Jvm.Cond.code ({ cls := "java/lang/StringBuilder", name := "length", desc := "()I" } : Jvm.MethodName) jdk_67_method_93_code (1 : Nat) (Option.some Jvm.ClassFile.FieldType.int), Jvm.Cond.code ({ cls := "java/lang/AbstractStringBuilder", name := "length", desc := "()I" } : Jvm.MethodName) jdk_68_method_6_code (1 : Nat) (Option.some Jvm.ClassFile.FieldType.int), Jvm.Cond.code ({ cls := "java/util/Arrays", name := "copyOfRange", desc := "([BII)[B" } : Jvm.MethodName) jdk_65_method_132_code (3 : Nat) (Option.some (Jvm.ClassFile.FieldType.array Jvm.ClassFile.FieldType.byte)), Jvm.Cond.code ({ cls := "java/util/Arrays", name := "copyOfRangeByte", desc := "([BII)[B" } : Jvm.MethodName) jdk_65_method_133_code (5 : Nat) (Option.some (Jvm.ClassFile.FieldType.array Jvm.ClassFile.FieldType.byte)), Jvm.Cond.code ({ cls := "java/util/Arrays", name := "checkLength", desc := "(II)V" } : Jvm.MethodName) jdk_65_method_131_code (2 : Nat) (Option.none : Option Jvm.ClassFile.FieldType), Jvm.Cond.code ({ cls := "com/example/campofelice/campofelice/MessageToStringPinLaw", name := "lit", desc := "(Ljava/lang/String;ILjava/lang/String;)I" } : Jvm.MethodName) method_4_code (3 : Nat) (Option.some Jvm.ClassFile.FieldType.int), Jvm.Cond.code ({ cls := "com/example/campofelice/campofelice/MessageToStringPinLaw", name := "c", desc := "(Ljava/lang/String;ILjava/lang/String;I)I" } : Jvm.MethodName) method_3_code (4 : Nat) (Option.some Jvm.ClassFile.FieldType.int), Jvm.Cond.code ({ cls := "java/lang/String", name := "charAt", desc := "(I)C" } : Jvm.MethodName) jdk_42_method_56_code (2 : Nat) (Option.some Jvm.ClassFile.FieldType.char), Jvm.Cond.code ({ cls := "java/lang/String", name := "isLatin1", desc := "()Z" } : Jvm.MethodName) jdk_42_method_154_code (1 : Nat) (Option.some Jvm.ClassFile.FieldType.boolean), Jvm.Cond.code ({ cls := "java/lang/StringLatin1", name := "charAt", desc := "([BI)C" } : Jvm.MethodName) jdk_43_method_2_code (2 : Nat) (Option.some Jvm.ClassFile.FieldType.char), Jvm.Cond.code ({ cls := "java/lang/String", name := "checkIndex", desc := "(II)V" } : Jvm.MethodName) jdk_42_method_155_code (2 : Nat) (Option.none : Option Jvm.ClassFile.FieldType), Jvm.Cond.code ({ cls := "jdk/internal/util/Preconditions", name := "checkIndex", desc := "(IILjava/util/function/BiFunction;)I" } : Jvm.MethodName) jdk_41_method_11_code (3 : Nat) (Option.some Jvm.ClassFile.FieldType.int), Jvm.Cond.code ({ cls := "com/example/campofelice/campofelice/MessageToStringPinLaw", name := "num", desc := "(Ljava/lang/String;IJ)I" } : Jvm.MethodName) method_6_code (4 : Nat) (Option.some Jvm.ClassFile.FieldType.int), Jvm.Cond.code ({ cls := "com/example/campofelice/campofelice/MessageToStringPinLaw", name := "d", desc := "(Ljava/lang/String;IJJ)I" } : Jvm.MethodName) method_5_code (9 : Nat) (Option.some Jvm.ClassFile.FieldType.int), Jvm.Cond.code ({ cls := "java/lang/Math", name := "abs", desc := "(J)J" } : Jvm.MethodName) jdk_29_method_61_code (2 : Nat) (Option.some Jvm.ClassFile.FieldType.long), Jvm.Cond.code ({ cls := "java/lang/String", name := "<init>", desc := "([C)V" } : Jvm.MethodName) jdk_42_method_3_code (2 : Nat) (Option.none : Option Jvm.ClassFile.FieldType), Jvm.Cond.code ({ cls := "java/lang/String", name := "<init>", desc := "([CIILjava/lang/Void;)V" } : Jvm.MethodName) jdk_42_method_149_code (6 : Nat) (Option.none : Option Jvm.ClassFile.FieldType), Jvm.Cond.code ({ cls := "java/lang/StringUTF16", name := "compress", desc := "([CII)[B" } : Jvm.MethodName) jdk_52_method_16_code (6 : Nat) (Option.some (Jvm.ClassFile.FieldType.array Jvm.ClassFile.FieldType.byte)), Jvm.Cond.code ({ cls := "java/lang/StringUTF16", name := "compress", desc := "([CI[BII)I" } : Jvm.MethodName) jdk_52_method_21_code (7 : Nat) (Option.some Jvm.ClassFile.FieldType.int), Jvm.Cond.code ({ cls := "java/lang/StringUTF16", name := "coderFromArrayLen", desc := "([BI)B" } : Jvm.MethodName) jdk_52_method_15_code (2 : Nat) (Option.some Jvm.ClassFile.FieldType.byte), Jvm.Cond.code ({ cls := "java/lang/String", name := "valueOf", desc := "(C)Ljava/lang/String;" } : Jvm.MethodName) jdk_42_method_139_code (1 : Nat) (Option.some (Jvm.ClassFile.FieldType.object "java/lang/String")), Jvm.Cond.code ({ cls := "java/lang/StringLatin1", name := "canEncode", desc := "(C)Z" } : Jvm.MethodName) jdk_43_method_3_code (1 : Nat) (Option.some Jvm.ClassFile.FieldType.boolean), Jvm.Cond.code ({ cls := "java/lang/StringLatin1", name := "toBytes", desc := "(C)[B" } : Jvm.MethodName) jdk_43_method_46_code (1 : Nat) (Option.some (Jvm.ClassFile.FieldType.array Jvm.ClassFile.FieldType.byte)), Jvm.Cond.code ({ cls := "java/lang/String", name := "<init>", desc := "([BB)V" } : Jvm.MethodName) jdk_42_method_151_code (3 : Nat) (Option.none : Option Jvm.ClassFile.FieldType)]
set_option maxRecDepth 65536 in
theorem codes_eq : words1.filter isCode = codes1 := rfl
theorem w_codes : ∀ c ∈ words1.filter isCode, c.before args0 about1 = true := by
  rw [codes_eq]
  intro c hc
  simp only [codes1, List.mem_cons, List.not_mem_nil, or_false] at hc
  rcases hc with rfl | rfl | rfl | rfl | rfl | rfl | rfl | rfl | rfl | rfl | rfl | rfl | rfl | rfl | rfl | rfl | rfl | rfl | rfl | rfl | rfl | rfl | rfl | rfl | rfl | rfl | rfl | rfl | rfl | rfl | rfl | rfl | rfl | rfl | rfl | rfl | rfl | rfl | rfl | rfl | rfl | rfl | rfl | rfl | rfl | rfl | rfl | rfl | rfl | rfl | rfl | rfl | rfl | rfl | rfl | rfl | rfl
  · exact w_c0
  · exact w_c1
  · exact w_c2
  · exact w_c3
  · exact w_c4
  · exact w_c5
  · exact w_c6
  · exact w_c7
  · exact w_c8
  · exact w_c9
  · exact w_c10
  · exact w_c11
  · exact w_c12
  · exact w_c13
  · exact w_c14
  · exact w_c15
  · exact w_c16
  · exact w_c17
  · exact w_c18
  · exact w_c19
  · exact w_c20
  · exact w_c21
  · exact w_c22
  · exact w_c23
  · exact w_c24
  · exact w_c25
  · exact w_c26
  · exact w_c27
  · exact w_c28
  · exact w_c29
  · exact w_c30
  · exact w_c31
  · exact w_c32
  · exact w_c33
  · exact w_c34
  · exact w_c35
  · exact w_c36
  · exact w_c37
  · exact w_c38
  · exact w_c39
  · exact w_c40
  · exact w_c41
  · exact w_c42
  · exact w_c43
  · exact w_c44
  · exact w_c45
  · exact w_c46
  · exact w_c47
  · exact w_c48
  · exact w_c49
  · exact w_c50
  · exact w_c51
  · exact w_c52
  · exact w_c53
  · exact w_c54
  · exact w_c55
  · exact w_c56
set_option maxRecDepth 65536 in
theorem w_t1 : (words1.take 24).all (fun c => isCode c || c.before args0 about1) = true := by decide +kernel
set_option maxRecDepth 65536 in
theorem w_t2 : ((words1.drop 24).take 24).all (fun c => isCode c || c.before args0 about1) = true := by decide +kernel
set_option maxRecDepth 65536 in
theorem w_t3 : (((words1.drop 24).drop 24).take 24).all (fun c => isCode c || c.before args0 about1) = true := by decide +kernel
set_option maxRecDepth 65536 in
theorem w_t4 : ((((words1.drop 24).drop 24).drop 24).take 24).all (fun c => isCode c || c.before args0 about1) = true := by decide +kernel
set_option maxRecDepth 65536 in
theorem w_t5 : (((((words1.drop 24).drop 24).drop 24).drop 24).take 24).all (fun c => isCode c || c.before args0 about1) = true := by decide +kernel
set_option maxRecDepth 65536 in
theorem w_t6 : ((((((words1.drop 24).drop 24).drop 24).drop 24).drop 24).take 24).all (fun c => isCode c || c.before args0 about1) = true := by decide +kernel
set_option maxRecDepth 65536 in
theorem w_t7 : (((((((words1.drop 24).drop 24).drop 24).drop 24).drop 24).drop 24).take 24).all (fun c => isCode c || c.before args0 about1) = true := by decide +kernel
set_option maxRecDepth 65536 in
theorem w_t8 : ((((((((words1.drop 24).drop 24).drop 24).drop 24).drop 24).drop 24).drop 24).take 24).all (fun c => isCode c || c.before args0 about1) = true := by decide +kernel
set_option maxRecDepth 65536 in
theorem w_t9 : (((((((((words1.drop 24).drop 24).drop 24).drop 24).drop 24).drop 24).drop 24).drop 24).take 24).all (fun c => isCode c || c.before args0 about1) = true := by decide +kernel
set_option maxRecDepth 65536 in
theorem w_t10 : ((((((((((words1.drop 24).drop 24).drop 24).drop 24).drop 24).drop 24).drop 24).drop 24).drop 24).take 24).all (fun c => isCode c || c.before args0 about1) = true := by decide +kernel
set_option maxRecDepth 65536 in
theorem w_t11 : (((((((((((words1.drop 24).drop 24).drop 24).drop 24).drop 24).drop 24).drop 24).drop 24).drop 24).drop 24).take 24).all (fun c => isCode c || c.before args0 about1) = true := by decide +kernel
set_option maxRecDepth 65536 in
theorem w_t12 : ((((((((((((words1.drop 24).drop 24).drop 24).drop 24).drop 24).drop 24).drop 24).drop 24).drop 24).drop 24).drop 24).take 24).all (fun c => isCode c || c.before args0 about1) = true := by decide +kernel
set_option maxRecDepth 65536 in
theorem w_t13 : (((((((((((((words1.drop 24).drop 24).drop 24).drop 24).drop 24).drop 24).drop 24).drop 24).drop 24).drop 24).drop 24).drop 24).take 24).all (fun c => isCode c || c.before args0 about1) = true := by decide +kernel
set_option maxRecDepth 65536 in
theorem w_t14 : (((((((((((((words1.drop 24).drop 24).drop 24).drop 24).drop 24).drop 24).drop 24).drop 24).drop 24).drop 24).drop 24).drop 24).drop 24).all (fun c => isCode c || c.before args0 about1) = true := by decide +kernel
theorem w_tables : (allAtoms (Jvm.Cond.code x code maxLocals ret :: tables_1)).before args0 about1 = true := by
  rw [allAtoms_all]
  show words1.all (fun c => c.before args0 about1) = true
  refine all_split ?_ w_codes
  rw [← List.take_append_drop 24 words1, List.all_append, w_t1, ← List.take_append_drop 24 (words1.drop 24), List.all_append, w_t2, ← List.take_append_drop 24 ((words1.drop 24).drop 24), List.all_append, w_t3, ← List.take_append_drop 24 (((words1.drop 24).drop 24).drop 24), List.all_append, w_t4, ← List.take_append_drop 24 ((((words1.drop 24).drop 24).drop 24).drop 24), List.all_append, w_t5, ← List.take_append_drop 24 (((((words1.drop 24).drop 24).drop 24).drop 24).drop 24), List.all_append, w_t6, ← List.take_append_drop 24 ((((((words1.drop 24).drop 24).drop 24).drop 24).drop 24).drop 24), List.all_append, w_t7, ← List.take_append_drop 24 (((((((words1.drop 24).drop 24).drop 24).drop 24).drop 24).drop 24).drop 24), List.all_append, w_t8, ← List.take_append_drop 24 ((((((((words1.drop 24).drop 24).drop 24).drop 24).drop 24).drop 24).drop 24).drop 24), List.all_append, w_t9, ← List.take_append_drop 24 (((((((((words1.drop 24).drop 24).drop 24).drop 24).drop 24).drop 24).drop 24).drop 24).drop 24), List.all_append, w_t10, ← List.take_append_drop 24 ((((((((((words1.drop 24).drop 24).drop 24).drop 24).drop 24).drop 24).drop 24).drop 24).drop 24).drop 24), List.all_append, w_t11, ← List.take_append_drop 24 (((((((((((words1.drop 24).drop 24).drop 24).drop 24).drop 24).drop 24).drop 24).drop 24).drop 24).drop 24).drop 24), List.all_append, w_t12, ← List.take_append_drop 24 ((((((((((((words1.drop 24).drop 24).drop 24).drop 24).drop 24).drop 24).drop 24).drop 24).drop 24).drop 24).drop 24).drop 24), List.all_append, w_t13, w_t14]
  rfl
set_option maxRecDepth 65536 in
theorem w_rest : rest_1_c.before args0 about1 = true := by decide +kernel
set_option maxRecDepth 65536 in
theorem w_case : (Jvm.Cond.and given_1 narrow_1).before args0 about1 = true := by decide +kernel
set_option maxRecDepth 65536 in
theorem w_consts : constsHeld consts_1 about1 := Jvm.Lit.constsHeldB_iff.mp (by decide +kernel)
theorem w_applies : (headSpec (Jvm.Cond.code x code maxLocals ret :: tables_1) room_1).applies x e0.platform about1 = true :=
  (Spec.applies_iff w_frames).mpr ⟨w_running, w_runnable, w_alone, w_named, w_hears, w_ripe, w_room, w_tables⟩
theorem atStart : AtStart classFile x code maxLocals ret World_1 tables_1 room_1 Calls_1 rest_1 Pre_1 launch0 p0 e0 about1 theMethod args0 below0 :=
  ⟨lists_1, trivial, launch0.admits_env _ _ _, launch0.least_env, fairChoices_fair.cas, fairChoices_fair.clock, w_frames, w_args, w_heap, w_applies, ⟨w_consts, trivial⟩, w_rest, w_case⟩
end start1
theorem witness_1 : WitnessClaimed_1 := ⟨start1.p0, start1.e0, start1.about1, start1.theMethod, start1.args0, start1.below0, start1.atStart⟩
end Jvm.Pilot.@@N@@
