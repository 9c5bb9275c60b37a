import JvmDerived
import JvmDerived.Pilot.@@N@@Statement
import JvmDerived.Pilot.@@N@@Code
set_option linter.unusedVariables false
set_option linter.unusedSimpArgs false

namespace Jvm.RoadKit
open Sem ClassFile Op Lib Jvm.Stand Jvm.Free Jvm.LawKit
section New
variable {p : Program} {l : Launch} {e : Env} {R : Room} {s : State} {m : MethodId} {args : Array Value} {below : List Frame} {meth : Method} {c : Code} {T : State} {locs : List Loc} {cells slots : Nat}
theorem retI (X : Stand p l e R s m args below meth c T locs cells slots) (hx : p.tables.exec = Jvm.exec) {pc : Nat} {Ls : Array Slot} {z : Int32} {rest : List Value} (hret : meth.sig.returnType = some .int) (hd : decode c.code pc = .ok (.ireturn, 1)) {fs : List Frame}
    (hl : ∀ (f : JFrame) (acts : List Action), f.method = m → f.locked = none → f.entered = [] → (doReturn e (T.setTop f) acts (some (.int z))).1 = T.setFrames fs) : Steps p.tables e below (T.setTop (mkF m pc Ls (.int z :: rest))) (T.setFrames fs) := by
  have hm' : T.vm.method? m = some meth := X.method'
  have hn : narrow .int (.int z) = .int z := rfl
  show Steps p.tables e below (T.setTop { method := m, pc := pc, locals := Ls, stack := _ :: rest, locked := none }) _
  jvm_step X.here [X.here.top, hx, hd, hm', hret, hn]
  first | (intro acts; rw [hl _ acts rfl rfl rfl]) | rw [hl _ _ rfl rfl rfl]
  exact Steps.refl _
end New
end Jvm.RoadKit

namespace Jvm.Pilot.@@N@@
open Jvm Jvm.ClassFile Sem Op Lib Jvm.Free Jvm.Stand Jvm.LawKit Jvm.RoadKit Bundle Jvm.Pilot.@@N@@.Jvm.D
theorem own_and1 (x : Int32) (h : ¬ x &&& 1 = 0) : x &&& 1 = 1 := by
  have e := c_mask x 1 1 (by decide) (by decide)
  rw [← Int32.toInt_inj, e, show (0 : Int32).toInt = 0 from rfl] at h
  rw [← Int32.toInt_inj, e, show (1 : Int32).toInt = 1 from rfl]; omega
theorem d1_0 : decode prog_12_method_2_code 0 = .ok (.iload_n 0, 1) := by decide +kernel
theorem d1_1 : decode prog_12_method_2_code 1 = .ok (.ifCond .eq 9, 3) := by decide +kernel
theorem d1_10 : decode prog_12_method_2_code 10 = .ok (.getstatic 17, 3) := by decide +kernel
theorem d1_13 : decode prog_12_method_2_code 13 = .ok (.areturn, 1) := by decide +kernel
theorem pn_BooleanValue : plainName "com/example/bare_refinement/barerefinement/exploration/BooleanValue" = true := by first | (simp [plainName, overriddenIn]; done) | decide +kernel
def QrmOf0 (Z : State) (aS : Addr) (h0 : Heap) (n0 : Nat) (v : Option Value) (h : Heap) (L : List Loc) : Prop := v = some (.ref aS) ∧ Fr n0 L ∧ h = h0
set_option maxRecDepth 65536 in
set_option maxHeartbeats 40000000 in
theorem rmOf0 (l : Launch) (Z : State) (av0 : Array Value) (hw : ∀ d ∈ tables_1, d.before av0 Z = true) (ws : List Jvm.Cond) (aS : Addr) (h0 : Heap) (n0 : Nat) (Z0 : n0 ≤ h0.size) (hS : Sta Z h0 "com/example/bare_refinement/barerefinement/exploration/BooleanValue" "FALSE" "Lcom/example/bare_refinement/barerefinement/exploration/BooleanValue;" (.ref aS)) :
    MetFree l (⟨"com/example/bare_refinement/barerefinement/exploration/BooleanValue", "of", "(Z)Lcom/example/bare_refinement/barerefinement/exploration/BooleanValue;"⟩ : MethodName) (head1 (Jvm.Cond.code (⟨"com/example/bare_refinement/barerefinement/exploration/BooleanValue", "of", "(Z)Lcom/example/bare_refinement/barerefinement/exploration/BooleanValue;"⟩ : MethodName) prog_12_method_2_code 1 (some (.object "com/example/bare_refinement/barerefinement/exploration/BooleanValue")) :: ws) ({ frames := 0, cells := 0, slots := 0, locals := 0 } : Room)) (fun aU U => aU = #[(.int (0 : Int32))] ∧ Z.Warmed39 U.vm ∧ U.heap = h0) (fun _ _ _ _ _ => True) (fun _ U oU U' => ∃ vU LU, oU = .returned vU ∧ QrmOf0 Z aS h0 n0 vU U'.heap LU ∧ FrameEnd U oU U' LU ({ frames := 0, cells := 0, slots := 0, locals := 0 } : Room).cells ({ frames := 0, cells := 0, slots := 0, locals := 0 } : Room).slots) := by
  refine MetFree.of_bodySF (plainFor_of_name pn_BooleanValue) hisR ?_
  intro p e s m args below meth c s₁ Bd hml0 hP hK
  obtain ⟨rfl, hZ, hh⟩ := hP
  have hx := Bd.exec
  have hby := Bd.bytes
  have hml : c.maxLocals = 1 := hml0
  have hown : s.vm.findClass "com/example/bare_refinement/barerefinement/exploration/BooleanValue" = some m.cls := findClass_of_methodNamed Bd.named
  have hnm := (name_of_methodNamed Bd.named Bd.method).1
  have X0 : Stand p l e ({ frames := 0, cells := 0, slots := 0, locals := 0 } : Room) s m #[(.int (0 : Int32))] below meth c s₁ [] 0 0 := Stand.of_body Bd
  have e0 : s₁.heap = h0 := by rw [← hh, Bd.state]; rfl
  have N0 := Fr.nil n0
  have pre0 : ∀ t, Steps p.tables e below (s₁.setTop (mkF m 0 #[.val (.int (0 : Int32))] [])) t → Steps p.tables e below (s₁.setTop (entryFrame m #[(.int (0 : Int32))] 1)) t := fun t k => castTop (by first | (simp [entryFrame, mkF, argsToLocals, Value.category]; done) | rfl) k
  obtain ⟨T1, X1, e1, st1⟩ := getS2 X0 hx hZ hown (host := "") (Or.inl (hw _ (List.mem_of_getElem? (i := 4) rfl))) Via.refl e0 hS (g := (mkF m 10 #[.val (.int (0 : Int32))] [])) rfl (hb hby d1_10)
  have S2 : ∀ t, Steps p.tables e below (T1.setTop (mkF m 13 #[.val (.int (0 : Int32))] [(.ref aS)])) t → Steps p.tables e below (s₁.setTop (mkF m 0 #[.val (.int (0 : Int32))] [])) t := fun t k => id (by
    show Steps p.tables e below (s₁.setTop (mkF m 0 #[.val (.int (0 : Int32))] [])) _
    refine XS.iloadN X0.here hx rfl (hb hby d1_0) rfl ?_
    show Steps p.tables e below (s₁.setTop (mkF m 1 #[.val (.int (0 : Int32))] [(.int (0 : Int32))])) _
    refine XS.ifYes X0.here hx rfl (pc0 := 1) (pc' := 10) rfl (hb hby d1_1) rfl (XT.i0_eq_t (by decide)) (by decide) (by decide) ?_
    show Steps p.tables e below (s₁.setTop (mkF m 10 #[.val (.int (0 : Int32))] [])) _
    refine st1 _ ?_
    show Steps p.tables e below (T1.setTop (mkF m 13 #[.val (.int (0 : Int32))] [(.ref aS)])) _
    exact k)
  obtain ⟨fs, hr, hrun, hended, hW, hsame⟩ := X1.leave (v := some (.ref aS)) (fun h => by rw [Bd.returns] at h; cases h)
  refine ⟨_, _, pre0 _ (S2 _ ?_), hrun, hended, _, _, rfl, ?_, ⟨_, rfl⟩, hW, hsame.mono (by decide) (by decide)⟩
  · jvm_step X1.here [X1.here.top, hx, (hb hby d1_13), X1.method', Bd.returns, Value.isRef, FieldType.isReference]
    first | (intro acts; rw [hr _ acts rfl rfl rfl]) | rw [hr _ _ rfl rfl rfl]
    exact Steps.refl _
  · show QrmOf0 Z aS h0 n0 _ T1.heap _
    rw [e1]
    exact ⟨rfl, N0, rfl⟩
theorem d1_4 : decode prog_12_method_2_code 4 = .ok (.getstatic 13, 3) := by decide +kernel
theorem d1_7 : decode prog_12_method_2_code 7 = .ok (.goto 6, 3) := by decide +kernel
def QrmOf1 (Z : State) (aS : Addr) (h0 : Heap) (n0 : Nat) (v : Option Value) (h : Heap) (L : List Loc) : Prop := v = some (.ref aS) ∧ Fr n0 L ∧ h = h0
set_option maxRecDepth 65536 in
set_option maxHeartbeats 40000000 in
theorem rmOf1 (l : Launch) (Z : State) (av0 : Array Value) (hw : ∀ d ∈ tables_1, d.before av0 Z = true) (ws : List Jvm.Cond) (aS : Addr) (h0 : Heap) (n0 : Nat) (Z0 : n0 ≤ h0.size) (hS : Sta Z h0 "com/example/bare_refinement/barerefinement/exploration/BooleanValue" "TRUE" "Lcom/example/bare_refinement/barerefinement/exploration/BooleanValue;" (.ref aS)) :
    MetFree l (⟨"com/example/bare_refinement/barerefinement/exploration/BooleanValue", "of", "(Z)Lcom/example/bare_refinement/barerefinement/exploration/BooleanValue;"⟩ : MethodName) (head1 (Jvm.Cond.code (⟨"com/example/bare_refinement/barerefinement/exploration/BooleanValue", "of", "(Z)Lcom/example/bare_refinement/barerefinement/exploration/BooleanValue;"⟩ : MethodName) prog_12_method_2_code 1 (some (.object "com/example/bare_refinement/barerefinement/exploration/BooleanValue")) :: ws) ({ frames := 0, cells := 0, slots := 0, locals := 0 } : Room)) (fun aU U => aU = #[(.int (1 : Int32))] ∧ Z.Warmed39 U.vm ∧ U.heap = h0) (fun _ _ _ _ _ => True) (fun _ U oU U' => ∃ vU LU, oU = .returned vU ∧ QrmOf1 Z aS h0 n0 vU U'.heap LU ∧ FrameEnd U oU U' LU ({ frames := 0, cells := 0, slots := 0, locals := 0 } : Room).cells ({ frames := 0, cells := 0, slots := 0, locals := 0 } : Room).slots) := by
  refine MetFree.of_bodySF (plainFor_of_name pn_BooleanValue) hisR ?_
  intro p e s m args below meth c s₁ Bd hml0 hP hK
  obtain ⟨rfl, hZ, hh⟩ := hP
  have hx := Bd.exec
  have hby := Bd.bytes
  have hml : c.maxLocals = 1 := hml0
  have hown : s.vm.findClass "com/example/bare_refinement/barerefinement/exploration/BooleanValue" = some m.cls := findClass_of_methodNamed Bd.named
  have hnm := (name_of_methodNamed Bd.named Bd.method).1
  have X0 : Stand p l e ({ frames := 0, cells := 0, slots := 0, locals := 0 } : Room) s m #[(.int (1 : Int32))] below meth c s₁ [] 0 0 := Stand.of_body Bd
  have e0 : s₁.heap = h0 := by rw [← hh, Bd.state]; rfl
  have N0 := Fr.nil n0
  have pre0 : ∀ t, Steps p.tables e below (s₁.setTop (mkF m 0 #[.val (.int (1 : Int32))] [])) t → Steps p.tables e below (s₁.setTop (entryFrame m #[(.int (1 : Int32))] 1)) t := fun t k => castTop (by first | (simp [entryFrame, mkF, argsToLocals, Value.category]; done) | rfl) k
  obtain ⟨T1, X1, e1, st1⟩ := getS2 X0 hx hZ hown (host := "") (Or.inl (hw _ (List.mem_of_getElem? (i := 6) rfl))) Via.refl e0 hS (g := (mkF m 4 #[.val (.int (1 : Int32))] [])) rfl (hb hby d1_4)
  have S2 : ∀ t, Steps p.tables e below (T1.setTop (mkF m 13 #[.val (.int (1 : Int32))] [(.ref aS)])) t → Steps p.tables e below (s₁.setTop (mkF m 0 #[.val (.int (1 : Int32))] [])) t := fun t k => id (by
    show Steps p.tables e below (s₁.setTop (mkF m 0 #[.val (.int (1 : Int32))] [])) _
    refine XS.iloadN X0.here hx rfl (hb hby d1_0) rfl ?_
    show Steps p.tables e below (s₁.setTop (mkF m 1 #[.val (.int (1 : Int32))] [(.int (1 : Int32))])) _
    refine XS.ifNo X0.here hx rfl (hb hby d1_1) rfl (XT.i0_eq_f (by decide)) ?_
    show Steps p.tables e below (s₁.setTop (mkF m 4 #[.val (.int (1 : Int32))] [])) _
    refine st1 _ ?_
    show Steps p.tables e below (T1.setTop (mkF m 7 #[.val (.int (1 : Int32))] [(.ref aS)])) _
    refine XS.goto X1.here hx rfl (pc0 := 7) (pc' := 13) rfl (hb hby d1_7) (by decide) (by decide) ?_
    show Steps p.tables e below (T1.setTop (mkF m 13 #[.val (.int (1 : Int32))] [(.ref aS)])) _
    exact k)
  obtain ⟨fs, hr, hrun, hended, hW, hsame⟩ := X1.leave (v := some (.ref aS)) (fun h => by rw [Bd.returns] at h; cases h)
  refine ⟨_, _, pre0 _ (S2 _ ?_), hrun, hended, _, _, rfl, ?_, ⟨_, rfl⟩, hW, hsame.mono (by decide) (by decide)⟩
  · jvm_step X1.here [X1.here.top, hx, (hb hby d1_13), X1.method', Bd.returns, Value.isRef, FieldType.isReference]
    first | (intro acts; rw [hr _ acts rfl rfl rfl]) | rw [hr _ _ rfl rfl rfl]
    exact Steps.refl _
  · show QrmOf1 Z aS h0 n0 _ T1.heap _
    rw [e1]
    exact ⟨rfl, N0, rfl⟩
theorem d2_0 : decode prog_12_method_3_code 0 = .ok (.aload_n 0, 1) := by decide +kernel
theorem d2_1 : decode prog_12_method_3_code 1 = .ok (.getfield 7, 3) := by decide +kernel
theorem d2_4 : decode prog_12_method_3_code 4 = .ok (.ireturn, 1) := by decide +kernel
def QrmGet0 (Z : State) (a0 : Addr) (h0 : Heap) (n0 : Nat) (v : Option Value) (h : Heap) (L : List Loc) : Prop := v = some (.int 0) ∧ Fr n0 L ∧ h = h0
set_option maxRecDepth 65536 in
set_option maxHeartbeats 40000000 in
theorem rmGet0 (l : Launch) (Z : State) (av0 : Array Value) (hw : ∀ d ∈ tables_1, d.before av0 Z = true) (ws : List Jvm.Cond) (a0 : Addr) (h0 : Heap) (n0 : Nat) (Z0 : n0 ≤ h0.size) (hF : Fld Z h0 a0 "com/example/bare_refinement/barerefinement/exploration/BooleanValue" "value" "Z" (.int (0 : Int32))) :
    MetFree l (⟨"com/example/bare_refinement/barerefinement/exploration/BooleanValue", "get", "()Z"⟩ : MethodName) (head1 (Jvm.Cond.code (⟨"com/example/bare_refinement/barerefinement/exploration/BooleanValue", "get", "()Z"⟩ : MethodName) prog_12_method_3_code 1 (some .boolean) :: ws) ({ frames := 0, cells := 0, slots := 0, locals := 0 } : Room)) (fun aU U => aU = #[(.ref a0)] ∧ Z.Warmed39 U.vm ∧ U.heap = h0) (fun _ _ _ _ _ => True) (fun _ U oU U' => ∃ vU LU, oU = .returned vU ∧ QrmGet0 Z a0 h0 n0 vU U'.heap LU ∧ FrameEnd U oU U' LU ({ frames := 0, cells := 0, slots := 0, locals := 0 } : Room).cells ({ frames := 0, cells := 0, slots := 0, locals := 0 } : Room).slots) := by
  refine MetFree.of_bodySF (plainFor_of_name pn_BooleanValue) hisR ?_
  intro p e s m args below meth c s₁ Bd hml0 hP hK
  obtain ⟨rfl, hZ, hh⟩ := hP
  have hx := Bd.exec
  have hby := Bd.bytes
  have hml : c.maxLocals = 1 := hml0
  have hown : s.vm.findClass "com/example/bare_refinement/barerefinement/exploration/BooleanValue" = some m.cls := findClass_of_methodNamed Bd.named
  have hnm := (name_of_methodNamed Bd.named Bd.method).1
  have X0 : Stand p l e ({ frames := 0, cells := 0, slots := 0, locals := 0 } : Room) s m #[(.ref a0)] below meth c s₁ [] 0 0 := Stand.of_body Bd
  have e0 : s₁.heap = h0 := by rw [← hh, Bd.state]; rfl
  have N0 := Fr.nil n0
  have pre0 : ∀ t, Steps p.tables e below (s₁.setTop (mkF m 0 #[.val (.ref a0)] [])) t → Steps p.tables e below (s₁.setTop (entryFrame m #[(.ref a0)] 1)) t := fun t k => castTop (by first | (simp [entryFrame, mkF, argsToLocals, Value.category]; done) | rfl) k
  obtain ⟨T1, X1, e1, st1⟩ := getF X0 hx hZ hown (host := "") (Or.inl (hw _ (List.mem_of_getElem? (i := 13) rfl))) Via.refl e0 hF (g := (mkF m 1 #[.val (.ref a0)] [(.ref a0)])) rfl rfl (hb hby d2_1)
  have S2 : ∀ t, Steps p.tables e below (T1.setTop (mkF m 4 #[.val (.ref a0)] [(.int (0 : Int32))])) t → Steps p.tables e below (s₁.setTop (mkF m 0 #[.val (.ref a0)] [])) t := fun t k => id (by
    show Steps p.tables e below (s₁.setTop (mkF m 0 #[.val (.ref a0)] [])) _
    refine XS.aloadN X0.here hx rfl (hb hby d2_0) rfl rfl ?_
    show Steps p.tables e below (s₁.setTop (mkF m 1 #[.val (.ref a0)] [(.ref a0)])) _
    refine st1 _ ?_
    show Steps p.tables e below (T1.setTop (mkF m 4 #[.val (.ref a0)] [(.int (0 : Int32))])) _
    exact k)
  obtain ⟨fs, hr, hrun, hended, hW, hsame⟩ := X1.leave (v := some (.int (0 : Int32))) (fun h => by rw [Bd.returns] at h; cases h)
  refine ⟨_, _, pre0 _ (S2 _ ?_), hrun, hended, _, _, rfl, ?_, ⟨_, rfl⟩, hW, hsame.mono (by decide) (by decide)⟩
  · exact retN X1 hx (t := .boolean) Bd.returns (by simp) (hb hby d2_4) hr
  · show QrmGet0 Z a0 h0 n0 _ T1.heap _
    rw [e1]
    exact ⟨rfl, N0, rfl⟩
def QrmGet1 (Z : State) (a0 : Addr) (h0 : Heap) (n0 : Nat) (v : Option Value) (h : Heap) (L : List Loc) : Prop := v = some (.int 1) ∧ Fr n0 L ∧ h = h0
set_option maxRecDepth 65536 in
set_option maxHeartbeats 40000000 in
theorem rmGet1 (l : Launch) (Z : State) (av0 : Array Value) (hw : ∀ d ∈ tables_1, d.before av0 Z = true) (ws : List Jvm.Cond) (a0 : Addr) (h0 : Heap) (n0 : Nat) (Z0 : n0 ≤ h0.size) (hF : Fld Z h0 a0 "com/example/bare_refinement/barerefinement/exploration/BooleanValue" "value" "Z" (.int (1 : Int32))) :
    MetFree l (⟨"com/example/bare_refinement/barerefinement/exploration/BooleanValue", "get", "()Z"⟩ : MethodName) (head1 (Jvm.Cond.code (⟨"com/example/bare_refinement/barerefinement/exploration/BooleanValue", "get", "()Z"⟩ : MethodName) prog_12_method_3_code 1 (some .boolean) :: ws) ({ frames := 0, cells := 0, slots := 0, locals := 0 } : Room)) (fun aU U => aU = #[(.ref a0)] ∧ Z.Warmed39 U.vm ∧ U.heap = h0) (fun _ _ _ _ _ => True) (fun _ U oU U' => ∃ vU LU, oU = .returned vU ∧ QrmGet1 Z a0 h0 n0 vU U'.heap LU ∧ FrameEnd U oU U' LU ({ frames := 0, cells := 0, slots := 0, locals := 0 } : Room).cells ({ frames := 0, cells := 0, slots := 0, locals := 0 } : Room).slots) := by
  refine MetFree.of_bodySF (plainFor_of_name pn_BooleanValue) hisR ?_
  intro p e s m args below meth c s₁ Bd hml0 hP hK
  obtain ⟨rfl, hZ, hh⟩ := hP
  have hx := Bd.exec
  have hby := Bd.bytes
  have hml : c.maxLocals = 1 := hml0
  have hown : s.vm.findClass "com/example/bare_refinement/barerefinement/exploration/BooleanValue" = some m.cls := findClass_of_methodNamed Bd.named
  have hnm := (name_of_methodNamed Bd.named Bd.method).1
  have X0 : Stand p l e ({ frames := 0, cells := 0, slots := 0, locals := 0 } : Room) s m #[(.ref a0)] below meth c s₁ [] 0 0 := Stand.of_body Bd
  have e0 : s₁.heap = h0 := by rw [← hh, Bd.state]; rfl
  have N0 := Fr.nil n0
  have pre0 : ∀ t, Steps p.tables e below (s₁.setTop (mkF m 0 #[.val (.ref a0)] [])) t → Steps p.tables e below (s₁.setTop (entryFrame m #[(.ref a0)] 1)) t := fun t k => castTop (by first | (simp [entryFrame, mkF, argsToLocals, Value.category]; done) | rfl) k
  obtain ⟨T1, X1, e1, st1⟩ := getF X0 hx hZ hown (host := "") (Or.inl (hw _ (List.mem_of_getElem? (i := 13) rfl))) Via.refl e0 hF (g := (mkF m 1 #[.val (.ref a0)] [(.ref a0)])) rfl rfl (hb hby d2_1)
  have S2 : ∀ t, Steps p.tables e below (T1.setTop (mkF m 4 #[.val (.ref a0)] [(.int (1 : Int32))])) t → Steps p.tables e below (s₁.setTop (mkF m 0 #[.val (.ref a0)] [])) t := fun t k => id (by
    show Steps p.tables e below (s₁.setTop (mkF m 0 #[.val (.ref a0)] [])) _
    refine XS.aloadN X0.here hx rfl (hb hby d2_0) rfl rfl ?_
    show Steps p.tables e below (s₁.setTop (mkF m 1 #[.val (.ref a0)] [(.ref a0)])) _
    refine st1 _ ?_
    show Steps p.tables e below (T1.setTop (mkF m 4 #[.val (.ref a0)] [(.int (1 : Int32))])) _
    exact k)
  obtain ⟨fs, hr, hrun, hended, hW, hsame⟩ := X1.leave (v := some (.int (1 : Int32))) (fun h => by rw [Bd.returns] at h; cases h)
  refine ⟨_, _, pre0 _ (S2 _ ?_), hrun, hended, _, _, rfl, ?_, ⟨_, rfl⟩, hW, hsame.mono (by decide) (by decide)⟩
  · exact retN X1 hx (t := .boolean) Bd.returns (by simp) (hb hby d2_4) hr
  · show QrmGet1 Z a0 h0 n0 _ T1.heap _
    rw [e1]
    exact ⟨rfl, N0, rfl⟩
theorem pn_BooleanValueOfPinLaw : plainName "com/example/bare_refinement/barerefinement/exploration/BooleanValueOfPinLaw" = true := by first | (simp [plainName, overriddenIn]; done) | decide +kernel
theorem pd__Z_Lcom_example_bare_refinement_barerefinement_exploration_BooleanValue_ : parseMethodDescriptor "(Z)Lcom/example/bare_refinement/barerefinement/exploration/BooleanValue;" = some ⟨[.boolean], some (.object "com/example/bare_refinement/barerefinement/exploration/BooleanValue")⟩ := by decide +kernel
theorem pd__Z : parseMethodDescriptor "()Z" = some ⟨[], some .boolean⟩ := by decide +kernel
def Qrm0 (Z : State) (p0 : Int32) (p1 : Int32) (aT : Addr) (aF : Addr) (h0 : Heap) (n0 : Nat) (v : Option Value) (h : Heap) (L : List Loc) : Prop := v = some (.int 1) ∧ Fr n0 L
set_option maxRecDepth 65536 in
set_option maxHeartbeats 40000000 in
theorem rm0 (l : Launch) (Z : State) (av0 : Array Value) (hw : ∀ d ∈ tables_1, d.before av0 Z = true) (ws : List Jvm.Cond) (p0 : Int32) (p1 : Int32) (aT : Addr) (aF : Addr) (h0 : Heap) (n0 : Nat) (Z0 : n0 ≤ h0.size) (hSaT : Sta Z h0 "com/example/bare_refinement/barerefinement/exploration/BooleanValue" "TRUE" "Lcom/example/bare_refinement/barerefinement/exploration/BooleanValue;" (.ref aT)) (hEaT : Exa Z h0 aT "com/example/bare_refinement/barerefinement/exploration/BooleanValue") (hVaT : Fld Z h0 aT "com/example/bare_refinement/barerefinement/exploration/BooleanValue" "value" "Z" (.int (1 : Int32))) (hSaF : Sta Z h0 "com/example/bare_refinement/barerefinement/exploration/BooleanValue" "FALSE" "Lcom/example/bare_refinement/barerefinement/exploration/BooleanValue;" (.ref aF)) (hEaF : Exa Z h0 aF "com/example/bare_refinement/barerefinement/exploration/BooleanValue") (hVaF : Fld Z h0 aF "com/example/bare_refinement/barerefinement/exploration/BooleanValue" "value" "Z" (.int (0 : Int32))) (hne : aF ≠ aT) :
    MetFree l x (head1 (Jvm.Cond.code x code maxLocals ret :: ws) room_1) (fun aU U => aU = #[(.int p0), (.int p1)] ∧ Z.Warmed39 U.vm ∧ U.heap = h0) (fun _ _ _ _ _ => True) (fun _ U oU U' => ∃ vU LU, oU = .returned vU ∧ Qrm0 Z p0 p1 aT aF h0 n0 vU U'.heap LU ∧ FrameEnd U oU U' LU room_1.cells room_1.slots) := by
  refine MetFree.of_bodySF (plainFor_of_name pn_BooleanValueOfPinLaw) hisR ?_
  intro p e s m args below meth c s₁ Bd hml0 hP hK
  obtain ⟨rfl, hZ, hh⟩ := hP
  have hx := Bd.exec
  have hby := Bd.bytes
  have hml : c.maxLocals = 10 := hml0
  have hown : s.vm.findClass "com/example/bare_refinement/barerefinement/exploration/BooleanValueOfPinLaw" = some m.cls := findClass_of_methodNamed Bd.named
  have hnm := (name_of_methodNamed Bd.named Bd.method).1
  have X0 : Stand p l e room_1 s m #[(.int p0), (.int p1)] below meth c s₁ [] 0 0 := Stand.of_body Bd
  have e0 : s₁.heap = h0 := by rw [← hh, Bd.state]; rfl
  have N0 := Fr.nil n0
  have pre0 : ∀ t, Steps p.tables e below (s₁.setTop (mkF m 0 #[.val (.int p0), .val (.int p1), .unset, .unset, .unset, .unset, .unset, .unset, .unset, .unset] [])) t → Steps p.tables e below (s₁.setTop (entryFrame m #[(.int p0), (.int p1)] maxLocals)) t := fun t k => castTop (by first | (simp [entryFrame, mkF, argsToLocals, Value.category, maxLocals]; done) | rfl) k
  have S1 : ∀ t, Steps p.tables e below (s₁.setTop (mkF m 3 #[.val (.int p0), .val (.int p1), .unset, .unset, .unset, .unset, .unset, .unset, .unset, .unset] [(.int (p0 &&& (1 : Int32)))])) t → Steps p.tables e below (s₁.setTop (mkF m 0 #[.val (.int p0), .val (.int p1), .unset, .unset, .unset, .unset, .unset, .unset, .unset, .unset] [])) t := fun t k => id (by
    show Steps p.tables e below (s₁.setTop (mkF m 0 #[.val (.int p0), .val (.int p1), .unset, .unset, .unset, .unset, .unset, .unset, .unset, .unset] [])) _
    refine XS.iloadN X0.here hx rfl (hb hby at_0) rfl ?_
    show Steps p.tables e below (s₁.setTop (mkF m 1 #[.val (.int p0), .val (.int p1), .unset, .unset, .unset, .unset, .unset, .unset, .unset, .unset] [(.int p0)])) _
    refine XT.iconstV X0.here hx rfl (1 : Int32) (hb hby at_1) (by decide) ?_
    show Steps p.tables e below (s₁.setTop (mkF m 2 #[.val (.int p0), .val (.int p1), .unset, .unset, .unset, .unset, .unset, .unset, .unset, .unset] [(.int (1 : Int32)), (.int p0)])) _
    refine XS.iand X0.here hx rfl (hb hby at_2) rfl ?_
    show Steps p.tables e below (s₁.setTop (mkF m 3 #[.val (.int p0), .val (.int p1), .unset, .unset, .unset, .unset, .unset, .unset, .unset, .unset] [(.int (p0 &&& (1 : Int32)))])) _
    exact k)
  by_cases hc3_2 : (p0 &&& (1 : Int32)) = (0 : Int32)
  · have S3 : ∀ t, Steps p.tables e below (s₁.setTop (mkF m 15 #[.val (.int p0), .val (.int p1), .val (.int (0 : Int32)), .unset, .unset, .unset, .unset, .unset, .unset, .unset] [(.int (p1 &&& (1 : Int32)))])) t → Steps p.tables e below (s₁.setTop (mkF m 0 #[.val (.int p0), .val (.int p1), .unset, .unset, .unset, .unset, .unset, .unset, .unset, .unset] [])) t := fun t k => S1 t (by
      show Steps p.tables e below (s₁.setTop (mkF m 3 #[.val (.int p0), .val (.int p1), .unset, .unset, .unset, .unset, .unset, .unset, .unset, .unset] [(.int (p0 &&& (1 : Int32)))])) _
      refine XS.ifYes X0.here hx rfl (pc0 := 3) (pc' := 10) rfl (hb hby at_3) rfl (XT.i0_eq_t hc3_2) (by decide) (by decide) ?_
      show Steps p.tables e below (s₁.setTop (mkF m 10 #[.val (.int p0), .val (.int p1), .unset, .unset, .unset, .unset, .unset, .unset, .unset, .unset] [])) _
      refine XT.iconstV X0.here hx rfl (0 : Int32) (hb hby at_10) (by decide) ?_
      show Steps p.tables e below (s₁.setTop (mkF m 11 #[.val (.int p0), .val (.int p1), .unset, .unset, .unset, .unset, .unset, .unset, .unset, .unset] [(.int (0 : Int32))])) _
      refine XS.istoreN X0.here hx rfl (hb hby at_11) rfl (l' := #[.val (.int p0), .val (.int p1), .val (.int (0 : Int32)), .unset, .unset, .unset, .unset, .unset, .unset, .unset]) rfl ?_
      show Steps p.tables e below (s₁.setTop (mkF m 12 #[.val (.int p0), .val (.int p1), .val (.int (0 : Int32)), .unset, .unset, .unset, .unset, .unset, .unset, .unset] [])) _
      refine XS.iloadN X0.here hx rfl (hb hby at_12) rfl ?_
      show Steps p.tables e below (s₁.setTop (mkF m 13 #[.val (.int p0), .val (.int p1), .val (.int (0 : Int32)), .unset, .unset, .unset, .unset, .unset, .unset, .unset] [(.int p1)])) _
      refine XT.iconstV X0.here hx rfl (1 : Int32) (hb hby at_13) (by decide) ?_
      show Steps p.tables e below (s₁.setTop (mkF m 14 #[.val (.int p0), .val (.int p1), .val (.int (0 : Int32)), .unset, .unset, .unset, .unset, .unset, .unset, .unset] [(.int (1 : Int32)), (.int p1)])) _
      refine XS.iand X0.here hx rfl (hb hby at_14) rfl ?_
      show Steps p.tables e below (s₁.setTop (mkF m 15 #[.val (.int p0), .val (.int p1), .val (.int (0 : Int32)), .unset, .unset, .unset, .unset, .unset, .unset, .unset] [(.int (p1 &&& (1 : Int32)))])) _
      exact k)
    by_cases hc15_4 : (p1 &&& (1 : Int32)) = (0 : Int32)
    · obtain ⟨_, _, ⟨T5, L5, k5, n5⟩, -, X5, ⟨Lc5, hQ5, l5, y5, z5⟩, st5⟩ := Jvm.LawKit.callS X0 hx (y := (⟨"com/example/bare_refinement/barerefinement/exploration/BooleanValue", "of", "(Z)Lcom/example/bare_refinement/barerefinement/exploration/BooleanValue;"⟩ : MethodName)) hown (mvT hZ (hw _ (List.mem_of_getElem? (i := 0) rfl))) (mvT hZ (hw _ (List.mem_of_getElem? (i := 1) rfl))) (mvT hZ (hw _ (List.mem_of_getElem? (i := 2) rfl))) (mvT hZ (hw _ (List.mem_of_getElem? (i := 3) rfl))) (by decide) (backOf (W := 0) (rmOf0 l Z av0 hw [] aF h0 n0 Z0 hSaF) hZ (hw _ (List.mem_of_getElem? (i := 3) rfl)) (hw _ (List.mem_of_getElem? (i := 2) rfl)) (by decide) (by decide)) (g := (mkF m 25 #[.val (.int p0), .val (.int p1), .val (.int (0 : Int32)), .val (.int (0 : Int32)), .unset, .unset, .unset, .unset, .unset, .unset] [(.int (0 : Int32))])) rfl (by rw [hml]; rfl) (argsL := [(.int (0 : Int32))]) (rest := []) (lenOf pd__Z_Lcom_example_bare_refinement_barerefinement_exploration_BooleanValue_ rfl) rfl (by show 2 * 0 + _ ≤ _; exact Nat.le_of_eq rfl) (hb hby at_25) (fun _ _ => ⟨rfl, e0, (by decide : 0 + 0 ≤ _), (by decide : 0 + 0 ≤ _)⟩)
      dsimp only [Pt.U, Pt.locs, Pt.cells, Pt.slots] at X5 l5 y5 z5 st5 hQ5
      subst l5 y5 z5
      obtain ⟨rfl, N5q, hh5⟩ := hQ5
      have N5 := Fr.app N0 N5q
      have e5 : T5.heap = h0 := hh5
      obtain ⟨_, _, ⟨T6, L6, k6, n6⟩, -, X6, ⟨Lc6, hQ6, l6, y6, z6⟩, st6⟩ := Jvm.LawKit.callS X5 hx (y := (⟨"com/example/bare_refinement/barerefinement/exploration/BooleanValue", "of", "(Z)Lcom/example/bare_refinement/barerefinement/exploration/BooleanValue;"⟩ : MethodName)) hown (mvT hZ (hw _ (List.mem_of_getElem? (i := 0) rfl))) (mvT hZ (hw _ (List.mem_of_getElem? (i := 1) rfl))) (mvT hZ (hw _ (List.mem_of_getElem? (i := 2) rfl))) (mvT hZ (hw _ (List.mem_of_getElem? (i := 3) rfl))) (by decide) (backOf (W := 0) (rmOf0 l Z av0 hw [] aF h0 n0 Z0 hSaF) hZ (hw _ (List.mem_of_getElem? (i := 3) rfl)) (hw _ (List.mem_of_getElem? (i := 2) rfl)) (by decide) (by decide)) (g := (mkF m 31 #[.val (.int p0), .val (.int p1), .val (.int (0 : Int32)), .val (.int (0 : Int32)), .val (.ref aF), .unset, .unset, .unset, .unset, .unset] [(.int (0 : Int32))])) rfl (by rw [hml]; rfl) (argsL := [(.int (0 : Int32))]) (rest := []) (lenOf pd__Z_Lcom_example_bare_refinement_barerefinement_exploration_BooleanValue_ rfl) rfl (by show 2 * 0 + _ ≤ _; exact Nat.le_of_eq rfl) (hb hby at_31) (fun _ _ => ⟨rfl, e5, (by decide : 0 + 0 ≤ _), (by decide : 0 + 0 ≤ _)⟩)
      dsimp only [Pt.U, Pt.locs, Pt.cells, Pt.slots] at X6 l6 y6 z6 st6 hQ6
      subst l6 y6 z6
      obtain ⟨rfl, N6q, hh6⟩ := hQ6
      have N6 := Fr.app N5 N6q
      have e6 : T6.heap = h0 := hh6
      obtain ⟨_, _, ⟨T7, L7, k7, n7⟩, -, X7, ⟨Lc7, hQ7, l7, y7, z7⟩, st7⟩ := Jvm.LawKit.callS X6 hx (y := (⟨"com/example/bare_refinement/barerefinement/exploration/BooleanValue", "of", "(Z)Lcom/example/bare_refinement/barerefinement/exploration/BooleanValue;"⟩ : MethodName)) hown (mvT hZ (hw _ (List.mem_of_getElem? (i := 0) rfl))) (mvT hZ (hw _ (List.mem_of_getElem? (i := 1) rfl))) (mvT hZ (hw _ (List.mem_of_getElem? (i := 2) rfl))) (mvT hZ (hw _ (List.mem_of_getElem? (i := 3) rfl))) (by decide) (backOf (W := 0) (rmOf0 l Z av0 hw [] aF h0 n0 Z0 hSaF) hZ (hw _ (List.mem_of_getElem? (i := 3) rfl)) (hw _ (List.mem_of_getElem? (i := 2) rfl)) (by decide) (by decide)) (g := (mkF m 37 #[.val (.int p0), .val (.int p1), .val (.int (0 : Int32)), .val (.int (0 : Int32)), .val (.ref aF), .val (.ref aF), .unset, .unset, .unset, .unset] [(.int (0 : Int32))])) rfl (by rw [hml]; rfl) (argsL := [(.int (0 : Int32))]) (rest := []) (lenOf pd__Z_Lcom_example_bare_refinement_barerefinement_exploration_BooleanValue_ rfl) rfl (by show 2 * 0 + _ ≤ _; exact Nat.le_of_eq rfl) (hb hby at_37) (fun _ _ => ⟨rfl, e6, (by decide : 0 + 0 ≤ _), (by decide : 0 + 0 ≤ _)⟩)
      dsimp only [Pt.U, Pt.locs, Pt.cells, Pt.slots] at X7 l7 y7 z7 st7 hQ7
      subst l7 y7 z7
      obtain ⟨rfl, N7q, hh7⟩ := hQ7
      have N7 := Fr.app N6 N7q
      have e7 : T7.heap = h0 := hh7
      obtain ⟨cq8, kq8, q8a, q8b, q8c⟩ := isOf hZ e7 hEaF
      obtain ⟨_, _, ⟨T8, L8, k8, n8⟩, -, X8, ⟨Lc8, hQ8, l8, y8, z8⟩, st8⟩ := X7.virtualBack hx (y := (⟨"com/example/bare_refinement/barerefinement/exploration/BooleanValue", "get", "()Z"⟩ : MethodName)) (z := (⟨"com/example/bare_refinement/barerefinement/exploration/BooleanValue", "get", "()Z"⟩ : MethodName)) hown (mvT hZ (hw _ (List.mem_of_getElem? (i := 8) rfl))) (mvT hZ (hw _ (List.mem_of_getElem? (i := 9) rfl))) (notFace_of_selects (args := #[]) (mvT hZ (hw _ (List.mem_of_getElem? (i := 11) rfl)))) (mvT hZ (hw _ (List.mem_of_getElem? (i := 11) rfl))) (mvT hZ (hw _ (List.mem_of_getElem? (i := 10) rfl))) (by decide) (backOf (W := 0) (rmGet0 l Z av0 hw [] aF h0 n0 Z0 hVaF) hZ (hw _ (List.mem_of_getElem? (i := 12) rfl)) (hw _ (List.mem_of_getElem? (i := 2) rfl)) (by decide) (by decide)) q8a q8c (g := (mkF m 61 #[.val (.int p0), .val (.int p1), .val (.int (0 : Int32)), .val (.int (0 : Int32)), .val (.ref aF), .val (.ref aF), .val (.ref aF), .unset, .unset, .unset] [(.ref aF)])) rfl (by rw [hml]; rfl) (Steps.refl _) (argsL := []) (rest := []) (lenOf pd__Z rfl) rfl (by show 2 * 0 + _ ≤ _; exact Nat.le_of_eq rfl) (hb hby at_61) (fun _ _ => ⟨rfl, e7, (by decide : 0 + 0 ≤ _), (by decide : 0 + 0 ≤ _)⟩)
      dsimp only [Pt.U, Pt.locs, Pt.cells, Pt.slots] at X8 l8 y8 z8 st8 hQ8
      subst l8 y8 z8
      obtain ⟨rfl, N8q, hh8⟩ := hQ8
      have N8 := Fr.app N7 N8q
      have e8 : T8.heap = h0 := hh8
      obtain ⟨cq9, kq9, q9a, q9b, q9c⟩ := isOf hZ e8 hEaF
      obtain ⟨_, _, ⟨T9, L9, k9, n9⟩, -, X9, ⟨Lc9, hQ9, l9, y9, z9⟩, st9⟩ := X8.virtualBack hx (y := (⟨"com/example/bare_refinement/barerefinement/exploration/BooleanValue", "get", "()Z"⟩ : MethodName)) (z := (⟨"com/example/bare_refinement/barerefinement/exploration/BooleanValue", "get", "()Z"⟩ : MethodName)) hown (mvT hZ (hw _ (List.mem_of_getElem? (i := 8) rfl))) (mvT hZ (hw _ (List.mem_of_getElem? (i := 9) rfl))) (notFace_of_selects (args := #[]) (mvT hZ (hw _ (List.mem_of_getElem? (i := 11) rfl)))) (mvT hZ (hw _ (List.mem_of_getElem? (i := 11) rfl))) (mvT hZ (hw _ (List.mem_of_getElem? (i := 10) rfl))) (by decide) (backOf (W := 0) (rmGet0 l Z av0 hw [] aF h0 n0 Z0 hVaF) hZ (hw _ (List.mem_of_getElem? (i := 12) rfl)) (hw _ (List.mem_of_getElem? (i := 2) rfl)) (by decide) (by decide)) q9a q9c (g := (mkF m 70 #[.val (.int p0), .val (.int p1), .val (.int (0 : Int32)), .val (.int (0 : Int32)), .val (.ref aF), .val (.ref aF), .val (.ref aF), .unset, .unset, .unset] [(.ref aF)])) rfl (by rw [hml]; rfl) (Steps.refl _) (argsL := []) (rest := []) (lenOf pd__Z rfl) rfl (by show 2 * 0 + _ ≤ _; exact Nat.le_of_eq rfl) (hb hby at_70) (fun _ _ => ⟨rfl, e8, (by decide : 0 + 0 ≤ _), (by decide : 0 + 0 ≤ _)⟩)
      dsimp only [Pt.U, Pt.locs, Pt.cells, Pt.slots] at X9 l9 y9 z9 st9 hQ9
      subst l9 y9 z9
      obtain ⟨rfl, N9q, hh9⟩ := hQ9
      have N9 := Fr.app N8 N9q
      have e9 : T9.heap = h0 := hh9
      obtain ⟨T10, X10, e10, st10⟩ := getS2 X9 hx hZ hown (host := "") (Or.inl (hw _ (List.mem_of_getElem? (i := 15) rfl))) Via.refl e9 hSaT (g := (mkF m 93 #[.val (.int p0), .val (.int p1), .val (.int (0 : Int32)), .val (.int (0 : Int32)), .val (.ref aF), .val (.ref aF), .val (.ref aF), .val (.int (1 : Int32)), .unset, .unset] [(.ref aF)])) rfl (hb hby at_93)
      obtain ⟨T11, X11, e11, st11⟩ := getS2 X10 hx hZ hown (host := "") (Or.inl (hw _ (List.mem_of_getElem? (i := 16) rfl))) Via.refl e10 hSaF (g := (mkF m 101 #[.val (.int p0), .val (.int p1), .val (.int (0 : Int32)), .val (.int (0 : Int32)), .val (.ref aF), .val (.ref aF), .val (.ref aF), .val (.int (1 : Int32)), .unset, .unset] [(.ref aF)])) rfl (hb hby at_101)
      obtain ⟨T12, X12, e12, st12⟩ := getS2 X11 hx hZ hown (host := "") (Or.inl (hw _ (List.mem_of_getElem? (i := 15) rfl))) Via.refl e11 hSaT (g := (mkF m 109 #[.val (.int p0), .val (.int p1), .val (.int (0 : Int32)), .val (.int (0 : Int32)), .val (.ref aF), .val (.ref aF), .val (.ref aF), .val (.int (1 : Int32)), .unset, .unset] [(.ref aF)])) rfl (hb hby at_109)
      obtain ⟨T13, X13, e13, st13⟩ := getS2 X12 hx hZ hown (host := "") (Or.inl (hw _ (List.mem_of_getElem? (i := 16) rfl))) Via.refl e12 hSaF (g := (mkF m 117 #[.val (.int p0), .val (.int p1), .val (.int (0 : Int32)), .val (.int (0 : Int32)), .val (.ref aF), .val (.ref aF), .val (.ref aF), .val (.int (1 : Int32)), .unset, .unset] [(.ref aF)])) rfl (hb hby at_117)
      have S14 : ∀ t, Steps p.tables e below (T13.setTop (mkF m 182 #[.val (.int p0), .val (.int p1), .val (.int (0 : Int32)), .val (.int (0 : Int32)), .val (.ref aF), .val (.ref aF), .val (.ref aF), .val (.int (1 : Int32)), .val (.int (1 : Int32)), .val (.int (1 : Int32))] [(.int (1 : Int32))])) t → Steps p.tables e below (s₁.setTop (mkF m 0 #[.val (.int p0), .val (.int p1), .unset, .unset, .unset, .unset, .unset, .unset, .unset, .unset] [])) t := fun t k => S3 t (by
        show Steps p.tables e below (s₁.setTop (mkF m 15 #[.val (.int p0), .val (.int p1), .val (.int (0 : Int32)), .unset, .unset, .unset, .unset, .unset, .unset, .unset] [(.int (p1 &&& (1 : Int32)))])) _
        refine XS.ifYes X0.here hx rfl (pc0 := 15) (pc' := 22) rfl (hb hby at_15) rfl (XT.i0_eq_t hc15_4) (by decide) (by decide) ?_
        show Steps p.tables e below (s₁.setTop (mkF m 22 #[.val (.int p0), .val (.int p1), .val (.int (0 : Int32)), .unset, .unset, .unset, .unset, .unset, .unset, .unset] [])) _
        refine XT.iconstV X0.here hx rfl (0 : Int32) (hb hby at_22) (by decide) ?_
        show Steps p.tables e below (s₁.setTop (mkF m 23 #[.val (.int p0), .val (.int p1), .val (.int (0 : Int32)), .unset, .unset, .unset, .unset, .unset, .unset, .unset] [(.int (0 : Int32))])) _
        refine XS.istoreN X0.here hx rfl (hb hby at_23) rfl (l' := #[.val (.int p0), .val (.int p1), .val (.int (0 : Int32)), .val (.int (0 : Int32)), .unset, .unset, .unset, .unset, .unset, .unset]) rfl ?_
        show Steps p.tables e below (s₁.setTop (mkF m 24 #[.val (.int p0), .val (.int p1), .val (.int (0 : Int32)), .val (.int (0 : Int32)), .unset, .unset, .unset, .unset, .unset, .unset] [])) _
        refine XS.iloadN X0.here hx rfl (hb hby at_24) rfl ?_
        show Steps p.tables e below (s₁.setTop (mkF m 25 #[.val (.int p0), .val (.int p1), .val (.int (0 : Int32)), .val (.int (0 : Int32)), .unset, .unset, .unset, .unset, .unset, .unset] [(.int (0 : Int32))])) _
        refine st5 _ ?_
        show Steps p.tables e below (T5.setTop (mkF m 28 #[.val (.int p0), .val (.int p1), .val (.int (0 : Int32)), .val (.int (0 : Int32)), .unset, .unset, .unset, .unset, .unset, .unset] [(.ref aF)])) _
        refine XS.astore X5.here hx rfl (hb hby at_28) rfl rfl (l' := #[.val (.int p0), .val (.int p1), .val (.int (0 : Int32)), .val (.int (0 : Int32)), .val (.ref aF), .unset, .unset, .unset, .unset, .unset]) rfl ?_
        show Steps p.tables e below (T5.setTop (mkF m 30 #[.val (.int p0), .val (.int p1), .val (.int (0 : Int32)), .val (.int (0 : Int32)), .val (.ref aF), .unset, .unset, .unset, .unset, .unset] [])) _
        refine XS.iloadN X5.here hx rfl (hb hby at_30) rfl ?_
        show Steps p.tables e below (T5.setTop (mkF m 31 #[.val (.int p0), .val (.int p1), .val (.int (0 : Int32)), .val (.int (0 : Int32)), .val (.ref aF), .unset, .unset, .unset, .unset, .unset] [(.int (0 : Int32))])) _
        refine st6 _ ?_
        show Steps p.tables e below (T6.setTop (mkF m 34 #[.val (.int p0), .val (.int p1), .val (.int (0 : Int32)), .val (.int (0 : Int32)), .val (.ref aF), .unset, .unset, .unset, .unset, .unset] [(.ref aF)])) _
        refine XS.astore X6.here hx rfl (hb hby at_34) rfl rfl (l' := #[.val (.int p0), .val (.int p1), .val (.int (0 : Int32)), .val (.int (0 : Int32)), .val (.ref aF), .val (.ref aF), .unset, .unset, .unset, .unset]) rfl ?_
        show Steps p.tables e below (T6.setTop (mkF m 36 #[.val (.int p0), .val (.int p1), .val (.int (0 : Int32)), .val (.int (0 : Int32)), .val (.ref aF), .val (.ref aF), .unset, .unset, .unset, .unset] [])) _
        refine XS.iloadN X6.here hx rfl (hb hby at_36) rfl ?_
        show Steps p.tables e below (T6.setTop (mkF m 37 #[.val (.int p0), .val (.int p1), .val (.int (0 : Int32)), .val (.int (0 : Int32)), .val (.ref aF), .val (.ref aF), .unset, .unset, .unset, .unset] [(.int (0 : Int32))])) _
        refine st7 _ ?_
        show Steps p.tables e below (T7.setTop (mkF m 40 #[.val (.int p0), .val (.int p1), .val (.int (0 : Int32)), .val (.int (0 : Int32)), .val (.ref aF), .val (.ref aF), .unset, .unset, .unset, .unset] [(.ref aF)])) _
        refine XS.astore X7.here hx rfl (hb hby at_40) rfl rfl (l' := #[.val (.int p0), .val (.int p1), .val (.int (0 : Int32)), .val (.int (0 : Int32)), .val (.ref aF), .val (.ref aF), .val (.ref aF), .unset, .unset, .unset]) rfl ?_
        show Steps p.tables e below (T7.setTop (mkF m 42 #[.val (.int p0), .val (.int p1), .val (.int (0 : Int32)), .val (.int (0 : Int32)), .val (.ref aF), .val (.ref aF), .val (.ref aF), .unset, .unset, .unset] [])) _
        refine XS.aload X7.here hx rfl (hb hby at_42) rfl rfl ?_
        show Steps p.tables e below (T7.setTop (mkF m 44 #[.val (.int p0), .val (.int p1), .val (.int (0 : Int32)), .val (.int (0 : Int32)), .val (.ref aF), .val (.ref aF), .val (.ref aF), .unset, .unset, .unset] [(.ref aF)])) _
        refine XS.ifnullNo X7.here hx rfl (hb hby at_44) rfl ?_
        show Steps p.tables e below (T7.setTop (mkF m 47 #[.val (.int p0), .val (.int p1), .val (.int (0 : Int32)), .val (.int (0 : Int32)), .val (.ref aF), .val (.ref aF), .val (.ref aF), .unset, .unset, .unset] [])) _
        refine XS.aload X7.here hx rfl (hb hby at_47) rfl rfl ?_
        show Steps p.tables e below (T7.setTop (mkF m 49 #[.val (.int p0), .val (.int p1), .val (.int (0 : Int32)), .val (.int (0 : Int32)), .val (.ref aF), .val (.ref aF), .val (.ref aF), .unset, .unset, .unset] [(.ref aF)])) _
        refine XS.ifnullNo X7.here hx rfl (hb hby at_49) rfl ?_
        show Steps p.tables e below (T7.setTop (mkF m 52 #[.val (.int p0), .val (.int p1), .val (.int (0 : Int32)), .val (.int (0 : Int32)), .val (.ref aF), .val (.ref aF), .val (.ref aF), .unset, .unset, .unset] [])) _
        refine XS.aload X7.here hx rfl (hb hby at_52) rfl rfl ?_
        show Steps p.tables e below (T7.setTop (mkF m 54 #[.val (.int p0), .val (.int p1), .val (.int (0 : Int32)), .val (.int (0 : Int32)), .val (.ref aF), .val (.ref aF), .val (.ref aF), .unset, .unset, .unset] [(.ref aF)])) _
        refine XT.ifnonnullYes X7.here hx rfl (pc0 := 54) (pc' := 59) rfl (hb hby at_54) rfl (by decide) (by decide) ?_
        show Steps p.tables e below (T7.setTop (mkF m 59 #[.val (.int p0), .val (.int p1), .val (.int (0 : Int32)), .val (.int (0 : Int32)), .val (.ref aF), .val (.ref aF), .val (.ref aF), .unset, .unset, .unset] [])) _
        refine XS.aload X7.here hx rfl (hb hby at_59) rfl rfl ?_
        show Steps p.tables e below (T7.setTop (mkF m 61 #[.val (.int p0), .val (.int p1), .val (.int (0 : Int32)), .val (.int (0 : Int32)), .val (.ref aF), .val (.ref aF), .val (.ref aF), .unset, .unset, .unset] [(.ref aF)])) _
        refine st8.trans ?_
        show Steps p.tables e below (T8.setTop (mkF m 64 #[.val (.int p0), .val (.int p1), .val (.int (0 : Int32)), .val (.int (0 : Int32)), .val (.ref aF), .val (.ref aF), .val (.ref aF), .unset, .unset, .unset] [(.int (0 : Int32))])) _
        refine XS.iloadN X8.here hx rfl (hb hby at_64) rfl ?_
        show Steps p.tables e below (T8.setTop (mkF m 65 #[.val (.int p0), .val (.int p1), .val (.int (0 : Int32)), .val (.int (0 : Int32)), .val (.ref aF), .val (.ref aF), .val (.ref aF), .unset, .unset, .unset] [(.int (0 : Int32)), (.int (0 : Int32))])) _
        refine XS.icmpNo X8.here hx rfl (hb hby at_65) rfl (XT.ii_ne_f (by decide)) ?_
        show Steps p.tables e below (T8.setTop (mkF m 68 #[.val (.int p0), .val (.int p1), .val (.int (0 : Int32)), .val (.int (0 : Int32)), .val (.ref aF), .val (.ref aF), .val (.ref aF), .unset, .unset, .unset] [])) _
        refine XS.aload X8.here hx rfl (hb hby at_68) rfl rfl ?_
        show Steps p.tables e below (T8.setTop (mkF m 70 #[.val (.int p0), .val (.int p1), .val (.int (0 : Int32)), .val (.int (0 : Int32)), .val (.ref aF), .val (.ref aF), .val (.ref aF), .unset, .unset, .unset] [(.ref aF)])) _
        refine st9.trans ?_
        show Steps p.tables e below (T9.setTop (mkF m 73 #[.val (.int p0), .val (.int p1), .val (.int (0 : Int32)), .val (.int (0 : Int32)), .val (.ref aF), .val (.ref aF), .val (.ref aF), .unset, .unset, .unset] [(.int (0 : Int32))])) _
        refine XS.iloadN X9.here hx rfl (hb hby at_73) rfl ?_
        show Steps p.tables e below (T9.setTop (mkF m 74 #[.val (.int p0), .val (.int p1), .val (.int (0 : Int32)), .val (.int (0 : Int32)), .val (.ref aF), .val (.ref aF), .val (.ref aF), .unset, .unset, .unset] [(.int (0 : Int32)), (.int (0 : Int32))])) _
        refine XS.icmpNo X9.here hx rfl (hb hby at_74) rfl (XT.ii_ne_f (by decide)) ?_
        show Steps p.tables e below (T9.setTop (mkF m 77 #[.val (.int p0), .val (.int p1), .val (.int (0 : Int32)), .val (.int (0 : Int32)), .val (.ref aF), .val (.ref aF), .val (.ref aF), .unset, .unset, .unset] [])) _
        refine XT.iconstV X9.here hx rfl (1 : Int32) (hb hby at_77) (by decide) ?_
        show Steps p.tables e below (T9.setTop (mkF m 78 #[.val (.int p0), .val (.int p1), .val (.int (0 : Int32)), .val (.int (0 : Int32)), .val (.ref aF), .val (.ref aF), .val (.ref aF), .unset, .unset, .unset] [(.int (1 : Int32))])) _
        refine XS.goto X9.here hx rfl (pc0 := 78) (pc' := 82) rfl (hb hby at_78) (by decide) (by decide) ?_
        show Steps p.tables e below (T9.setTop (mkF m 82 #[.val (.int p0), .val (.int p1), .val (.int (0 : Int32)), .val (.int (0 : Int32)), .val (.ref aF), .val (.ref aF), .val (.ref aF), .unset, .unset, .unset] [(.int (1 : Int32))])) _
        refine XS.istore X9.here hx rfl (hb hby at_82) rfl (l' := #[.val (.int p0), .val (.int p1), .val (.int (0 : Int32)), .val (.int (0 : Int32)), .val (.ref aF), .val (.ref aF), .val (.ref aF), .val (.int (1 : Int32)), .unset, .unset]) rfl ?_
        show Steps p.tables e below (T9.setTop (mkF m 84 #[.val (.int p0), .val (.int p1), .val (.int (0 : Int32)), .val (.int (0 : Int32)), .val (.ref aF), .val (.ref aF), .val (.ref aF), .val (.int (1 : Int32)), .unset, .unset] [])) _
        refine XS.aload X9.here hx rfl (hb hby at_84) rfl rfl ?_
        show Steps p.tables e below (T9.setTop (mkF m 86 #[.val (.int p0), .val (.int p1), .val (.int (0 : Int32)), .val (.int (0 : Int32)), .val (.ref aF), .val (.ref aF), .val (.ref aF), .val (.int (1 : Int32)), .unset, .unset] [(.ref aF)])) _
        refine XS.aload X9.here hx rfl (hb hby at_86) rfl rfl ?_
        show Steps p.tables e below (T9.setTop (mkF m 88 #[.val (.int p0), .val (.int p1), .val (.int (0 : Int32)), .val (.int (0 : Int32)), .val (.ref aF), .val (.ref aF), .val (.ref aF), .val (.int (1 : Int32)), .unset, .unset] [(.ref aF), (.ref aF)])) _
        refine XT.acmpNo X9.here hx rfl (hb hby at_88) rfl rfl rfl (XT.aa_ne_f rfl) ?_
        show Steps p.tables e below (T9.setTop (mkF m 91 #[.val (.int p0), .val (.int p1), .val (.int (0 : Int32)), .val (.int (0 : Int32)), .val (.ref aF), .val (.ref aF), .val (.ref aF), .val (.int (1 : Int32)), .unset, .unset] [])) _
        refine XS.aload X9.here hx rfl (hb hby at_91) rfl rfl ?_
        show Steps p.tables e below (T9.setTop (mkF m 93 #[.val (.int p0), .val (.int p1), .val (.int (0 : Int32)), .val (.int (0 : Int32)), .val (.ref aF), .val (.ref aF), .val (.ref aF), .val (.int (1 : Int32)), .unset, .unset] [(.ref aF)])) _
        refine st10 _ ?_
        show Steps p.tables e below (T10.setTop (mkF m 96 #[.val (.int p0), .val (.int p1), .val (.int (0 : Int32)), .val (.int (0 : Int32)), .val (.ref aF), .val (.ref aF), .val (.ref aF), .val (.int (1 : Int32)), .unset, .unset] [(.ref aT), (.ref aF)])) _
        refine XT.acmpNo X10.here hx rfl (hb hby at_96) rfl rfl rfl (XT.aa_eq_f (fun q => hne (Value.ref.inj q))) ?_
        show Steps p.tables e below (T10.setTop (mkF m 99 #[.val (.int p0), .val (.int p1), .val (.int (0 : Int32)), .val (.int (0 : Int32)), .val (.ref aF), .val (.ref aF), .val (.ref aF), .val (.int (1 : Int32)), .unset, .unset] [])) _
        refine XS.aload X10.here hx rfl (hb hby at_99) rfl rfl ?_
        show Steps p.tables e below (T10.setTop (mkF m 101 #[.val (.int p0), .val (.int p1), .val (.int (0 : Int32)), .val (.int (0 : Int32)), .val (.ref aF), .val (.ref aF), .val (.ref aF), .val (.int (1 : Int32)), .unset, .unset] [(.ref aF)])) _
        refine st11 _ ?_
        show Steps p.tables e below (T11.setTop (mkF m 104 #[.val (.int p0), .val (.int p1), .val (.int (0 : Int32)), .val (.int (0 : Int32)), .val (.ref aF), .val (.ref aF), .val (.ref aF), .val (.int (1 : Int32)), .unset, .unset] [(.ref aF), (.ref aF)])) _
        refine XT.acmpNo X11.here hx rfl (hb hby at_104) rfl rfl rfl (XT.aa_ne_f rfl) ?_
        show Steps p.tables e below (T11.setTop (mkF m 107 #[.val (.int p0), .val (.int p1), .val (.int (0 : Int32)), .val (.int (0 : Int32)), .val (.ref aF), .val (.ref aF), .val (.ref aF), .val (.int (1 : Int32)), .unset, .unset] [])) _
        refine XS.aload X11.here hx rfl (hb hby at_107) rfl rfl ?_
        show Steps p.tables e below (T11.setTop (mkF m 109 #[.val (.int p0), .val (.int p1), .val (.int (0 : Int32)), .val (.int (0 : Int32)), .val (.ref aF), .val (.ref aF), .val (.ref aF), .val (.int (1 : Int32)), .unset, .unset] [(.ref aF)])) _
        refine st12 _ ?_
        show Steps p.tables e below (T12.setTop (mkF m 112 #[.val (.int p0), .val (.int p1), .val (.int (0 : Int32)), .val (.int (0 : Int32)), .val (.ref aF), .val (.ref aF), .val (.ref aF), .val (.int (1 : Int32)), .unset, .unset] [(.ref aT), (.ref aF)])) _
        refine XT.acmpNo X12.here hx rfl (hb hby at_112) rfl rfl rfl (XT.aa_eq_f (fun q => hne (Value.ref.inj q))) ?_
        show Steps p.tables e below (T12.setTop (mkF m 115 #[.val (.int p0), .val (.int p1), .val (.int (0 : Int32)), .val (.int (0 : Int32)), .val (.ref aF), .val (.ref aF), .val (.ref aF), .val (.int (1 : Int32)), .unset, .unset] [])) _
        refine XS.aload X12.here hx rfl (hb hby at_115) rfl rfl ?_
        show Steps p.tables e below (T12.setTop (mkF m 117 #[.val (.int p0), .val (.int p1), .val (.int (0 : Int32)), .val (.int (0 : Int32)), .val (.ref aF), .val (.ref aF), .val (.ref aF), .val (.int (1 : Int32)), .unset, .unset] [(.ref aF)])) _
        refine st13 _ ?_
        show Steps p.tables e below (T13.setTop (mkF m 120 #[.val (.int p0), .val (.int p1), .val (.int (0 : Int32)), .val (.int (0 : Int32)), .val (.ref aF), .val (.ref aF), .val (.ref aF), .val (.int (1 : Int32)), .unset, .unset] [(.ref aF), (.ref aF)])) _
        refine XT.acmpNo X13.here hx rfl (hb hby at_120) rfl rfl rfl (XT.aa_ne_f rfl) ?_
        show Steps p.tables e below (T13.setTop (mkF m 123 #[.val (.int p0), .val (.int p1), .val (.int (0 : Int32)), .val (.int (0 : Int32)), .val (.ref aF), .val (.ref aF), .val (.ref aF), .val (.int (1 : Int32)), .unset, .unset] [])) _
        refine XT.iconstV X13.here hx rfl (1 : Int32) (hb hby at_123) (by decide) ?_
        show Steps p.tables e below (T13.setTop (mkF m 124 #[.val (.int p0), .val (.int p1), .val (.int (0 : Int32)), .val (.int (0 : Int32)), .val (.ref aF), .val (.ref aF), .val (.ref aF), .val (.int (1 : Int32)), .unset, .unset] [(.int (1 : Int32))])) _
        refine XS.goto X13.here hx rfl (pc0 := 124) (pc' := 128) rfl (hb hby at_124) (by decide) (by decide) ?_
        show Steps p.tables e below (T13.setTop (mkF m 128 #[.val (.int p0), .val (.int p1), .val (.int (0 : Int32)), .val (.int (0 : Int32)), .val (.ref aF), .val (.ref aF), .val (.ref aF), .val (.int (1 : Int32)), .unset, .unset] [(.int (1 : Int32))])) _
        refine XS.istore X13.here hx rfl (hb hby at_128) rfl (l' := #[.val (.int p0), .val (.int p1), .val (.int (0 : Int32)), .val (.int (0 : Int32)), .val (.ref aF), .val (.ref aF), .val (.ref aF), .val (.int (1 : Int32)), .val (.int (1 : Int32)), .unset]) rfl ?_
        show Steps p.tables e below (T13.setTop (mkF m 130 #[.val (.int p0), .val (.int p1), .val (.int (0 : Int32)), .val (.int (0 : Int32)), .val (.ref aF), .val (.ref aF), .val (.ref aF), .val (.int (1 : Int32)), .val (.int (1 : Int32)), .unset] [])) _
        refine XS.aload X13.here hx rfl (hb hby at_130) rfl rfl ?_
        show Steps p.tables e below (T13.setTop (mkF m 132 #[.val (.int p0), .val (.int p1), .val (.int (0 : Int32)), .val (.int (0 : Int32)), .val (.ref aF), .val (.ref aF), .val (.ref aF), .val (.int (1 : Int32)), .val (.int (1 : Int32)), .unset] [(.ref aF)])) _
        refine XS.aload X13.here hx rfl (hb hby at_132) rfl rfl ?_
        show Steps p.tables e below (T13.setTop (mkF m 134 #[.val (.int p0), .val (.int p1), .val (.int (0 : Int32)), .val (.int (0 : Int32)), .val (.ref aF), .val (.ref aF), .val (.ref aF), .val (.int (1 : Int32)), .val (.int (1 : Int32)), .unset] [(.ref aF), (.ref aF)])) _
        refine XT.acmpNo X13.here hx rfl (hb hby at_134) rfl rfl rfl (XT.aa_ne_f rfl) ?_
        show Steps p.tables e below (T13.setTop (mkF m 137 #[.val (.int p0), .val (.int p1), .val (.int (0 : Int32)), .val (.int (0 : Int32)), .val (.ref aF), .val (.ref aF), .val (.ref aF), .val (.int (1 : Int32)), .val (.int (1 : Int32)), .unset] [])) _
        refine XT.iconstV X13.here hx rfl (1 : Int32) (hb hby at_137) (by decide) ?_
        show Steps p.tables e below (T13.setTop (mkF m 138 #[.val (.int p0), .val (.int p1), .val (.int (0 : Int32)), .val (.int (0 : Int32)), .val (.ref aF), .val (.ref aF), .val (.ref aF), .val (.int (1 : Int32)), .val (.int (1 : Int32)), .unset] [(.int (1 : Int32))])) _
        refine XS.goto X13.here hx rfl (pc0 := 138) (pc' := 142) rfl (hb hby at_138) (by decide) (by decide) ?_
        show Steps p.tables e below (T13.setTop (mkF m 142 #[.val (.int p0), .val (.int p1), .val (.int (0 : Int32)), .val (.int (0 : Int32)), .val (.ref aF), .val (.ref aF), .val (.ref aF), .val (.int (1 : Int32)), .val (.int (1 : Int32)), .unset] [(.int (1 : Int32))])) _
        refine XS.iloadN X13.here hx rfl (hb hby at_142) rfl ?_
        show Steps p.tables e below (T13.setTop (mkF m 143 #[.val (.int p0), .val (.int p1), .val (.int (0 : Int32)), .val (.int (0 : Int32)), .val (.ref aF), .val (.ref aF), .val (.ref aF), .val (.int (1 : Int32)), .val (.int (1 : Int32)), .unset] [(.int (0 : Int32)), (.int (1 : Int32))])) _
        refine XS.iloadN X13.here hx rfl (hb hby at_143) rfl ?_
        show Steps p.tables e below (T13.setTop (mkF m 144 #[.val (.int p0), .val (.int p1), .val (.int (0 : Int32)), .val (.int (0 : Int32)), .val (.ref aF), .val (.ref aF), .val (.ref aF), .val (.int (1 : Int32)), .val (.int (1 : Int32)), .unset] [(.int (0 : Int32)), (.int (0 : Int32)), (.int (1 : Int32))])) _
        refine XS.icmpNo X13.here hx rfl (hb hby at_144) rfl (XT.ii_ne_f (by decide)) ?_
        show Steps p.tables e below (T13.setTop (mkF m 147 #[.val (.int p0), .val (.int p1), .val (.int (0 : Int32)), .val (.int (0 : Int32)), .val (.ref aF), .val (.ref aF), .val (.ref aF), .val (.int (1 : Int32)), .val (.int (1 : Int32)), .unset] [(.int (1 : Int32))])) _
        refine XT.iconstV X13.here hx rfl (1 : Int32) (hb hby at_147) (by decide) ?_
        show Steps p.tables e below (T13.setTop (mkF m 148 #[.val (.int p0), .val (.int p1), .val (.int (0 : Int32)), .val (.int (0 : Int32)), .val (.ref aF), .val (.ref aF), .val (.ref aF), .val (.int (1 : Int32)), .val (.int (1 : Int32)), .unset] [(.int (1 : Int32)), (.int (1 : Int32))])) _
        refine XS.goto X13.here hx rfl (pc0 := 148) (pc' := 152) rfl (hb hby at_148) (by decide) (by decide) ?_
        show Steps p.tables e below (T13.setTop (mkF m 152 #[.val (.int p0), .val (.int p1), .val (.int (0 : Int32)), .val (.int (0 : Int32)), .val (.ref aF), .val (.ref aF), .val (.ref aF), .val (.int (1 : Int32)), .val (.int (1 : Int32)), .unset] [(.int (1 : Int32)), (.int (1 : Int32))])) _
        refine XS.icmpNo X13.here hx rfl (hb hby at_152) rfl (XT.ii_ne_f (by decide)) ?_
        show Steps p.tables e below (T13.setTop (mkF m 155 #[.val (.int p0), .val (.int p1), .val (.int (0 : Int32)), .val (.int (0 : Int32)), .val (.ref aF), .val (.ref aF), .val (.ref aF), .val (.int (1 : Int32)), .val (.int (1 : Int32)), .unset] [])) _
        refine XT.iconstV X13.here hx rfl (1 : Int32) (hb hby at_155) (by decide) ?_
        show Steps p.tables e below (T13.setTop (mkF m 156 #[.val (.int p0), .val (.int p1), .val (.int (0 : Int32)), .val (.int (0 : Int32)), .val (.ref aF), .val (.ref aF), .val (.ref aF), .val (.int (1 : Int32)), .val (.int (1 : Int32)), .unset] [(.int (1 : Int32))])) _
        refine XS.goto X13.here hx rfl (pc0 := 156) (pc' := 160) rfl (hb hby at_156) (by decide) (by decide) ?_
        show Steps p.tables e below (T13.setTop (mkF m 160 #[.val (.int p0), .val (.int p1), .val (.int (0 : Int32)), .val (.int (0 : Int32)), .val (.ref aF), .val (.ref aF), .val (.ref aF), .val (.int (1 : Int32)), .val (.int (1 : Int32)), .unset] [(.int (1 : Int32))])) _
        refine XS.istore X13.here hx rfl (hb hby at_160) rfl (l' := #[.val (.int p0), .val (.int p1), .val (.int (0 : Int32)), .val (.int (0 : Int32)), .val (.ref aF), .val (.ref aF), .val (.ref aF), .val (.int (1 : Int32)), .val (.int (1 : Int32)), .val (.int (1 : Int32))]) rfl ?_
        show Steps p.tables e below (T13.setTop (mkF m 162 #[.val (.int p0), .val (.int p1), .val (.int (0 : Int32)), .val (.int (0 : Int32)), .val (.ref aF), .val (.ref aF), .val (.ref aF), .val (.int (1 : Int32)), .val (.int (1 : Int32)), .val (.int (1 : Int32))] [])) _
        refine XS.iload X13.here hx rfl (hb hby at_162) rfl ?_
        show Steps p.tables e below (T13.setTop (mkF m 164 #[.val (.int p0), .val (.int p1), .val (.int (0 : Int32)), .val (.int (0 : Int32)), .val (.ref aF), .val (.ref aF), .val (.ref aF), .val (.int (1 : Int32)), .val (.int (1 : Int32)), .val (.int (1 : Int32))] [(.int (1 : Int32))])) _
        refine XS.ifNo X13.here hx rfl (hb hby at_164) rfl (XT.i0_eq_f (by decide)) ?_
        show Steps p.tables e below (T13.setTop (mkF m 167 #[.val (.int p0), .val (.int p1), .val (.int (0 : Int32)), .val (.int (0 : Int32)), .val (.ref aF), .val (.ref aF), .val (.ref aF), .val (.int (1 : Int32)), .val (.int (1 : Int32)), .val (.int (1 : Int32))] [])) _
        refine XS.iload X13.here hx rfl (hb hby at_167) rfl ?_
        show Steps p.tables e below (T13.setTop (mkF m 169 #[.val (.int p0), .val (.int p1), .val (.int (0 : Int32)), .val (.int (0 : Int32)), .val (.ref aF), .val (.ref aF), .val (.ref aF), .val (.int (1 : Int32)), .val (.int (1 : Int32)), .val (.int (1 : Int32))] [(.int (1 : Int32))])) _
        refine XS.ifNo X13.here hx rfl (hb hby at_169) rfl (XT.i0_eq_f (by decide)) ?_
        show Steps p.tables e below (T13.setTop (mkF m 172 #[.val (.int p0), .val (.int p1), .val (.int (0 : Int32)), .val (.int (0 : Int32)), .val (.ref aF), .val (.ref aF), .val (.ref aF), .val (.int (1 : Int32)), .val (.int (1 : Int32)), .val (.int (1 : Int32))] [])) _
        refine XS.iload X13.here hx rfl (hb hby at_172) rfl ?_
        show Steps p.tables e below (T13.setTop (mkF m 174 #[.val (.int p0), .val (.int p1), .val (.int (0 : Int32)), .val (.int (0 : Int32)), .val (.ref aF), .val (.ref aF), .val (.ref aF), .val (.int (1 : Int32)), .val (.int (1 : Int32)), .val (.int (1 : Int32))] [(.int (1 : Int32))])) _
        refine XS.ifNo X13.here hx rfl (hb hby at_174) rfl (XT.i0_eq_f (by decide)) ?_
        show Steps p.tables e below (T13.setTop (mkF m 177 #[.val (.int p0), .val (.int p1), .val (.int (0 : Int32)), .val (.int (0 : Int32)), .val (.ref aF), .val (.ref aF), .val (.ref aF), .val (.int (1 : Int32)), .val (.int (1 : Int32)), .val (.int (1 : Int32))] [])) _
        refine XT.iconstV X13.here hx rfl (1 : Int32) (hb hby at_177) (by decide) ?_
        show Steps p.tables e below (T13.setTop (mkF m 178 #[.val (.int p0), .val (.int p1), .val (.int (0 : Int32)), .val (.int (0 : Int32)), .val (.ref aF), .val (.ref aF), .val (.ref aF), .val (.int (1 : Int32)), .val (.int (1 : Int32)), .val (.int (1 : Int32))] [(.int (1 : Int32))])) _
        refine XS.goto X13.here hx rfl (pc0 := 178) (pc' := 182) rfl (hb hby at_178) (by decide) (by decide) ?_
        show Steps p.tables e below (T13.setTop (mkF m 182 #[.val (.int p0), .val (.int p1), .val (.int (0 : Int32)), .val (.int (0 : Int32)), .val (.ref aF), .val (.ref aF), .val (.ref aF), .val (.int (1 : Int32)), .val (.int (1 : Int32)), .val (.int (1 : Int32))] [(.int (1 : Int32))])) _
        exact k)
      obtain ⟨fs, hr, hrun, hended, hW, hsame⟩ := X13.leave (v := some (.int (1 : Int32))) (fun h => by rw [Bd.returns] at h; cases h)
      refine ⟨_, _, pre0 _ (S14 _ ?_), hrun, hended, _, _, rfl, ?_, ⟨_, rfl⟩, hW, hsame.mono (by decide) (by decide)⟩
      · exact retN X13 hx (t := .boolean) Bd.returns (by simp) (hb hby at_182) hr
      · show Qrm0 Z p0 p1 aT aF h0 n0 _ T13.heap _
        rw [e13]
        exact ⟨rfl, N9⟩
    · obtain ⟨_, _, ⟨T15, L15, k15, n15⟩, -, X15, ⟨Lc15, hQ15, l15, y15, z15⟩, st15⟩ := Jvm.LawKit.callS X0 hx (y := (⟨"com/example/bare_refinement/barerefinement/exploration/BooleanValue", "of", "(Z)Lcom/example/bare_refinement/barerefinement/exploration/BooleanValue;"⟩ : MethodName)) hown (mvT hZ (hw _ (List.mem_of_getElem? (i := 0) rfl))) (mvT hZ (hw _ (List.mem_of_getElem? (i := 1) rfl))) (mvT hZ (hw _ (List.mem_of_getElem? (i := 2) rfl))) (mvT hZ (hw _ (List.mem_of_getElem? (i := 3) rfl))) (by decide) (backOf (W := 0) (rmOf0 l Z av0 hw [] aF h0 n0 Z0 hSaF) hZ (hw _ (List.mem_of_getElem? (i := 3) rfl)) (hw _ (List.mem_of_getElem? (i := 2) rfl)) (by decide) (by decide)) (g := (mkF m 25 #[.val (.int p0), .val (.int p1), .val (.int (0 : Int32)), .val (.int (1 : Int32)), .unset, .unset, .unset, .unset, .unset, .unset] [(.int (0 : Int32))])) rfl (by rw [hml]; rfl) (argsL := [(.int (0 : Int32))]) (rest := []) (lenOf pd__Z_Lcom_example_bare_refinement_barerefinement_exploration_BooleanValue_ rfl) rfl (by show 2 * 0 + _ ≤ _; exact Nat.le_of_eq rfl) (hb hby at_25) (fun _ _ => ⟨rfl, e0, (by decide : 0 + 0 ≤ _), (by decide : 0 + 0 ≤ _)⟩)
      dsimp only [Pt.U, Pt.locs, Pt.cells, Pt.slots] at X15 l15 y15 z15 st15 hQ15
      subst l15 y15 z15
      obtain ⟨rfl, N15q, hh15⟩ := hQ15
      have N15 := Fr.app N0 N15q
      have e15 : T15.heap = h0 := hh15
      obtain ⟨_, _, ⟨T16, L16, k16, n16⟩, -, X16, ⟨Lc16, hQ16, l16, y16, z16⟩, st16⟩ := Jvm.LawKit.callS X15 hx (y := (⟨"com/example/bare_refinement/barerefinement/exploration/BooleanValue", "of", "(Z)Lcom/example/bare_refinement/barerefinement/exploration/BooleanValue;"⟩ : MethodName)) hown (mvT hZ (hw _ (List.mem_of_getElem? (i := 0) rfl))) (mvT hZ (hw _ (List.mem_of_getElem? (i := 1) rfl))) (mvT hZ (hw _ (List.mem_of_getElem? (i := 2) rfl))) (mvT hZ (hw _ (List.mem_of_getElem? (i := 3) rfl))) (by decide) (backOf (W := 0) (rmOf1 l Z av0 hw [] aT h0 n0 Z0 hSaT) hZ (hw _ (List.mem_of_getElem? (i := 3) rfl)) (hw _ (List.mem_of_getElem? (i := 2) rfl)) (by decide) (by decide)) (g := (mkF m 31 #[.val (.int p0), .val (.int p1), .val (.int (0 : Int32)), .val (.int (1 : Int32)), .val (.ref aF), .unset, .unset, .unset, .unset, .unset] [(.int (1 : Int32))])) rfl (by rw [hml]; rfl) (argsL := [(.int (1 : Int32))]) (rest := []) (lenOf pd__Z_Lcom_example_bare_refinement_barerefinement_exploration_BooleanValue_ rfl) rfl (by show 2 * 0 + _ ≤ _; exact Nat.le_of_eq rfl) (hb hby at_31) (fun _ _ => ⟨rfl, e15, (by decide : 0 + 0 ≤ _), (by decide : 0 + 0 ≤ _)⟩)
      dsimp only [Pt.U, Pt.locs, Pt.cells, Pt.slots] at X16 l16 y16 z16 st16 hQ16
      subst l16 y16 z16
      obtain ⟨rfl, N16q, hh16⟩ := hQ16
      have N16 := Fr.app N15 N16q
      have e16 : T16.heap = h0 := hh16
      obtain ⟨_, _, ⟨T17, L17, k17, n17⟩, -, X17, ⟨Lc17, hQ17, l17, y17, z17⟩, st17⟩ := Jvm.LawKit.callS X16 hx (y := (⟨"com/example/bare_refinement/barerefinement/exploration/BooleanValue", "of", "(Z)Lcom/example/bare_refinement/barerefinement/exploration/BooleanValue;"⟩ : MethodName)) hown (mvT hZ (hw _ (List.mem_of_getElem? (i := 0) rfl))) (mvT hZ (hw _ (List.mem_of_getElem? (i := 1) rfl))) (mvT hZ (hw _ (List.mem_of_getElem? (i := 2) rfl))) (mvT hZ (hw _ (List.mem_of_getElem? (i := 3) rfl))) (by decide) (backOf (W := 0) (rmOf0 l Z av0 hw [] aF h0 n0 Z0 hSaF) hZ (hw _ (List.mem_of_getElem? (i := 3) rfl)) (hw _ (List.mem_of_getElem? (i := 2) rfl)) (by decide) (by decide)) (g := (mkF m 37 #[.val (.int p0), .val (.int p1), .val (.int (0 : Int32)), .val (.int (1 : Int32)), .val (.ref aF), .val (.ref aT), .unset, .unset, .unset, .unset] [(.int (0 : Int32))])) rfl (by rw [hml]; rfl) (argsL := [(.int (0 : Int32))]) (rest := []) (lenOf pd__Z_Lcom_example_bare_refinement_barerefinement_exploration_BooleanValue_ rfl) rfl (by show 2 * 0 + _ ≤ _; exact Nat.le_of_eq rfl) (hb hby at_37) (fun _ _ => ⟨rfl, e16, (by decide : 0 + 0 ≤ _), (by decide : 0 + 0 ≤ _)⟩)
      dsimp only [Pt.U, Pt.locs, Pt.cells, Pt.slots] at X17 l17 y17 z17 st17 hQ17
      subst l17 y17 z17
      obtain ⟨rfl, N17q, hh17⟩ := hQ17
      have N17 := Fr.app N16 N17q
      have e17 : T17.heap = h0 := hh17
      obtain ⟨cq18, kq18, q18a, q18b, q18c⟩ := isOf hZ e17 hEaF
      obtain ⟨_, _, ⟨T18, L18, k18, n18⟩, -, X18, ⟨Lc18, hQ18, l18, y18, z18⟩, st18⟩ := X17.virtualBack hx (y := (⟨"com/example/bare_refinement/barerefinement/exploration/BooleanValue", "get", "()Z"⟩ : MethodName)) (z := (⟨"com/example/bare_refinement/barerefinement/exploration/BooleanValue", "get", "()Z"⟩ : MethodName)) hown (mvT hZ (hw _ (List.mem_of_getElem? (i := 8) rfl))) (mvT hZ (hw _ (List.mem_of_getElem? (i := 9) rfl))) (notFace_of_selects (args := #[]) (mvT hZ (hw _ (List.mem_of_getElem? (i := 11) rfl)))) (mvT hZ (hw _ (List.mem_of_getElem? (i := 11) rfl))) (mvT hZ (hw _ (List.mem_of_getElem? (i := 10) rfl))) (by decide) (backOf (W := 0) (rmGet0 l Z av0 hw [] aF h0 n0 Z0 hVaF) hZ (hw _ (List.mem_of_getElem? (i := 12) rfl)) (hw _ (List.mem_of_getElem? (i := 2) rfl)) (by decide) (by decide)) q18a q18c (g := (mkF m 61 #[.val (.int p0), .val (.int p1), .val (.int (0 : Int32)), .val (.int (1 : Int32)), .val (.ref aF), .val (.ref aT), .val (.ref aF), .unset, .unset, .unset] [(.ref aF)])) rfl (by rw [hml]; rfl) (Steps.refl _) (argsL := []) (rest := []) (lenOf pd__Z rfl) rfl (by show 2 * 0 + _ ≤ _; exact Nat.le_of_eq rfl) (hb hby at_61) (fun _ _ => ⟨rfl, e17, (by decide : 0 + 0 ≤ _), (by decide : 0 + 0 ≤ _)⟩)
      dsimp only [Pt.U, Pt.locs, Pt.cells, Pt.slots] at X18 l18 y18 z18 st18 hQ18
      subst l18 y18 z18
      obtain ⟨rfl, N18q, hh18⟩ := hQ18
      have N18 := Fr.app N17 N18q
      have e18 : T18.heap = h0 := hh18
      obtain ⟨cq19, kq19, q19a, q19b, q19c⟩ := isOf hZ e18 hEaT
      obtain ⟨_, _, ⟨T19, L19, k19, n19⟩, -, X19, ⟨Lc19, hQ19, l19, y19, z19⟩, st19⟩ := X18.virtualBack hx (y := (⟨"com/example/bare_refinement/barerefinement/exploration/BooleanValue", "get", "()Z"⟩ : MethodName)) (z := (⟨"com/example/bare_refinement/barerefinement/exploration/BooleanValue", "get", "()Z"⟩ : MethodName)) hown (mvT hZ (hw _ (List.mem_of_getElem? (i := 8) rfl))) (mvT hZ (hw _ (List.mem_of_getElem? (i := 9) rfl))) (notFace_of_selects (args := #[]) (mvT hZ (hw _ (List.mem_of_getElem? (i := 11) rfl)))) (mvT hZ (hw _ (List.mem_of_getElem? (i := 11) rfl))) (mvT hZ (hw _ (List.mem_of_getElem? (i := 10) rfl))) (by decide) (backOf (W := 0) (rmGet1 l Z av0 hw [] aT h0 n0 Z0 hVaT) hZ (hw _ (List.mem_of_getElem? (i := 12) rfl)) (hw _ (List.mem_of_getElem? (i := 2) rfl)) (by decide) (by decide)) q19a q19c (g := (mkF m 70 #[.val (.int p0), .val (.int p1), .val (.int (0 : Int32)), .val (.int (1 : Int32)), .val (.ref aF), .val (.ref aT), .val (.ref aF), .unset, .unset, .unset] [(.ref aT)])) rfl (by rw [hml]; rfl) (Steps.refl _) (argsL := []) (rest := []) (lenOf pd__Z rfl) rfl (by show 2 * 0 + _ ≤ _; exact Nat.le_of_eq rfl) (hb hby at_70) (fun _ _ => ⟨rfl, e18, (by decide : 0 + 0 ≤ _), (by decide : 0 + 0 ≤ _)⟩)
      dsimp only [Pt.U, Pt.locs, Pt.cells, Pt.slots] at X19 l19 y19 z19 st19 hQ19
      subst l19 y19 z19
      obtain ⟨rfl, N19q, hh19⟩ := hQ19
      have N19 := Fr.app N18 N19q
      have e19 : T19.heap = h0 := hh19
      obtain ⟨T20, X20, e20, st20⟩ := getS2 X19 hx hZ hown (host := "") (Or.inl (hw _ (List.mem_of_getElem? (i := 15) rfl))) Via.refl e19 hSaT (g := (mkF m 93 #[.val (.int p0), .val (.int p1), .val (.int (0 : Int32)), .val (.int (1 : Int32)), .val (.ref aF), .val (.ref aT), .val (.ref aF), .val (.int (1 : Int32)), .unset, .unset] [(.ref aF)])) rfl (hb hby at_93)
      obtain ⟨T21, X21, e21, st21⟩ := getS2 X20 hx hZ hown (host := "") (Or.inl (hw _ (List.mem_of_getElem? (i := 16) rfl))) Via.refl e20 hSaF (g := (mkF m 101 #[.val (.int p0), .val (.int p1), .val (.int (0 : Int32)), .val (.int (1 : Int32)), .val (.ref aF), .val (.ref aT), .val (.ref aF), .val (.int (1 : Int32)), .unset, .unset] [(.ref aF)])) rfl (hb hby at_101)
      obtain ⟨T22, X22, e22, st22⟩ := getS2 X21 hx hZ hown (host := "") (Or.inl (hw _ (List.mem_of_getElem? (i := 15) rfl))) Via.refl e21 hSaT (g := (mkF m 109 #[.val (.int p0), .val (.int p1), .val (.int (0 : Int32)), .val (.int (1 : Int32)), .val (.ref aF), .val (.ref aT), .val (.ref aF), .val (.int (1 : Int32)), .unset, .unset] [(.ref aT)])) rfl (hb hby at_109)
      have S23 : ∀ t, Steps p.tables e below (T22.setTop (mkF m 182 #[.val (.int p0), .val (.int p1), .val (.int (0 : Int32)), .val (.int (1 : Int32)), .val (.ref aF), .val (.ref aT), .val (.ref aF), .val (.int (1 : Int32)), .val (.int (1 : Int32)), .val (.int (1 : Int32))] [(.int (1 : Int32))])) t → Steps p.tables e below (s₁.setTop (mkF m 0 #[.val (.int p0), .val (.int p1), .unset, .unset, .unset, .unset, .unset, .unset, .unset, .unset] [])) t := fun t k => S3 t (by
        show Steps p.tables e below (s₁.setTop (mkF m 15 #[.val (.int p0), .val (.int p1), .val (.int (0 : Int32)), .unset, .unset, .unset, .unset, .unset, .unset, .unset] [(.int (p1 &&& (1 : Int32)))])) _
        refine XS.ifNo X0.here hx rfl (hb hby at_15) rfl (XT.i0_eq_f hc15_4) ?_
        show Steps p.tables e below (s₁.setTop (mkF m 18 #[.val (.int p0), .val (.int p1), .val (.int (0 : Int32)), .unset, .unset, .unset, .unset, .unset, .unset, .unset] [])) _
        refine XT.iconstV X0.here hx rfl (1 : Int32) (hb hby at_18) (by decide) ?_
        show Steps p.tables e below (s₁.setTop (mkF m 19 #[.val (.int p0), .val (.int p1), .val (.int (0 : Int32)), .unset, .unset, .unset, .unset, .unset, .unset, .unset] [(.int (1 : Int32))])) _
        refine XS.goto X0.here hx rfl (pc0 := 19) (pc' := 23) rfl (hb hby at_19) (by decide) (by decide) ?_
        show Steps p.tables e below (s₁.setTop (mkF m 23 #[.val (.int p0), .val (.int p1), .val (.int (0 : Int32)), .unset, .unset, .unset, .unset, .unset, .unset, .unset] [(.int (1 : Int32))])) _
        refine XS.istoreN X0.here hx rfl (hb hby at_23) rfl (l' := #[.val (.int p0), .val (.int p1), .val (.int (0 : Int32)), .val (.int (1 : Int32)), .unset, .unset, .unset, .unset, .unset, .unset]) rfl ?_
        show Steps p.tables e below (s₁.setTop (mkF m 24 #[.val (.int p0), .val (.int p1), .val (.int (0 : Int32)), .val (.int (1 : Int32)), .unset, .unset, .unset, .unset, .unset, .unset] [])) _
        refine XS.iloadN X0.here hx rfl (hb hby at_24) rfl ?_
        show Steps p.tables e below (s₁.setTop (mkF m 25 #[.val (.int p0), .val (.int p1), .val (.int (0 : Int32)), .val (.int (1 : Int32)), .unset, .unset, .unset, .unset, .unset, .unset] [(.int (0 : Int32))])) _
        refine st15 _ ?_
        show Steps p.tables e below (T15.setTop (mkF m 28 #[.val (.int p0), .val (.int p1), .val (.int (0 : Int32)), .val (.int (1 : Int32)), .unset, .unset, .unset, .unset, .unset, .unset] [(.ref aF)])) _
        refine XS.astore X15.here hx rfl (hb hby at_28) rfl rfl (l' := #[.val (.int p0), .val (.int p1), .val (.int (0 : Int32)), .val (.int (1 : Int32)), .val (.ref aF), .unset, .unset, .unset, .unset, .unset]) rfl ?_
        show Steps p.tables e below (T15.setTop (mkF m 30 #[.val (.int p0), .val (.int p1), .val (.int (0 : Int32)), .val (.int (1 : Int32)), .val (.ref aF), .unset, .unset, .unset, .unset, .unset] [])) _
        refine XS.iloadN X15.here hx rfl (hb hby at_30) rfl ?_
        show Steps p.tables e below (T15.setTop (mkF m 31 #[.val (.int p0), .val (.int p1), .val (.int (0 : Int32)), .val (.int (1 : Int32)), .val (.ref aF), .unset, .unset, .unset, .unset, .unset] [(.int (1 : Int32))])) _
        refine st16 _ ?_
        show Steps p.tables e below (T16.setTop (mkF m 34 #[.val (.int p0), .val (.int p1), .val (.int (0 : Int32)), .val (.int (1 : Int32)), .val (.ref aF), .unset, .unset, .unset, .unset, .unset] [(.ref aT)])) _
        refine XS.astore X16.here hx rfl (hb hby at_34) rfl rfl (l' := #[.val (.int p0), .val (.int p1), .val (.int (0 : Int32)), .val (.int (1 : Int32)), .val (.ref aF), .val (.ref aT), .unset, .unset, .unset, .unset]) rfl ?_
        show Steps p.tables e below (T16.setTop (mkF m 36 #[.val (.int p0), .val (.int p1), .val (.int (0 : Int32)), .val (.int (1 : Int32)), .val (.ref aF), .val (.ref aT), .unset, .unset, .unset, .unset] [])) _
        refine XS.iloadN X16.here hx rfl (hb hby at_36) rfl ?_
        show Steps p.tables e below (T16.setTop (mkF m 37 #[.val (.int p0), .val (.int p1), .val (.int (0 : Int32)), .val (.int (1 : Int32)), .val (.ref aF), .val (.ref aT), .unset, .unset, .unset, .unset] [(.int (0 : Int32))])) _
        refine st17 _ ?_
        show Steps p.tables e below (T17.setTop (mkF m 40 #[.val (.int p0), .val (.int p1), .val (.int (0 : Int32)), .val (.int (1 : Int32)), .val (.ref aF), .val (.ref aT), .unset, .unset, .unset, .unset] [(.ref aF)])) _
        refine XS.astore X17.here hx rfl (hb hby at_40) rfl rfl (l' := #[.val (.int p0), .val (.int p1), .val (.int (0 : Int32)), .val (.int (1 : Int32)), .val (.ref aF), .val (.ref aT), .val (.ref aF), .unset, .unset, .unset]) rfl ?_
        show Steps p.tables e below (T17.setTop (mkF m 42 #[.val (.int p0), .val (.int p1), .val (.int (0 : Int32)), .val (.int (1 : Int32)), .val (.ref aF), .val (.ref aT), .val (.ref aF), .unset, .unset, .unset] [])) _
        refine XS.aload X17.here hx rfl (hb hby at_42) rfl rfl ?_
        show Steps p.tables e below (T17.setTop (mkF m 44 #[.val (.int p0), .val (.int p1), .val (.int (0 : Int32)), .val (.int (1 : Int32)), .val (.ref aF), .val (.ref aT), .val (.ref aF), .unset, .unset, .unset] [(.ref aF)])) _
        refine XS.ifnullNo X17.here hx rfl (hb hby at_44) rfl ?_
        show Steps p.tables e below (T17.setTop (mkF m 47 #[.val (.int p0), .val (.int p1), .val (.int (0 : Int32)), .val (.int (1 : Int32)), .val (.ref aF), .val (.ref aT), .val (.ref aF), .unset, .unset, .unset] [])) _
        refine XS.aload X17.here hx rfl (hb hby at_47) rfl rfl ?_
        show Steps p.tables e below (T17.setTop (mkF m 49 #[.val (.int p0), .val (.int p1), .val (.int (0 : Int32)), .val (.int (1 : Int32)), .val (.ref aF), .val (.ref aT), .val (.ref aF), .unset, .unset, .unset] [(.ref aT)])) _
        refine XS.ifnullNo X17.here hx rfl (hb hby at_49) rfl ?_
        show Steps p.tables e below (T17.setTop (mkF m 52 #[.val (.int p0), .val (.int p1), .val (.int (0 : Int32)), .val (.int (1 : Int32)), .val (.ref aF), .val (.ref aT), .val (.ref aF), .unset, .unset, .unset] [])) _
        refine XS.aload X17.here hx rfl (hb hby at_52) rfl rfl ?_
        show Steps p.tables e below (T17.setTop (mkF m 54 #[.val (.int p0), .val (.int p1), .val (.int (0 : Int32)), .val (.int (1 : Int32)), .val (.ref aF), .val (.ref aT), .val (.ref aF), .unset, .unset, .unset] [(.ref aF)])) _
        refine XT.ifnonnullYes X17.here hx rfl (pc0 := 54) (pc' := 59) rfl (hb hby at_54) rfl (by decide) (by decide) ?_
        show Steps p.tables e below (T17.setTop (mkF m 59 #[.val (.int p0), .val (.int p1), .val (.int (0 : Int32)), .val (.int (1 : Int32)), .val (.ref aF), .val (.ref aT), .val (.ref aF), .unset, .unset, .unset] [])) _
        refine XS.aload X17.here hx rfl (hb hby at_59) rfl rfl ?_
        show Steps p.tables e below (T17.setTop (mkF m 61 #[.val (.int p0), .val (.int p1), .val (.int (0 : Int32)), .val (.int (1 : Int32)), .val (.ref aF), .val (.ref aT), .val (.ref aF), .unset, .unset, .unset] [(.ref aF)])) _
        refine st18.trans ?_
        show Steps p.tables e below (T18.setTop (mkF m 64 #[.val (.int p0), .val (.int p1), .val (.int (0 : Int32)), .val (.int (1 : Int32)), .val (.ref aF), .val (.ref aT), .val (.ref aF), .unset, .unset, .unset] [(.int (0 : Int32))])) _
        refine XS.iloadN X18.here hx rfl (hb hby at_64) rfl ?_
        show Steps p.tables e below (T18.setTop (mkF m 65 #[.val (.int p0), .val (.int p1), .val (.int (0 : Int32)), .val (.int (1 : Int32)), .val (.ref aF), .val (.ref aT), .val (.ref aF), .unset, .unset, .unset] [(.int (0 : Int32)), (.int (0 : Int32))])) _
        refine XS.icmpNo X18.here hx rfl (hb hby at_65) rfl (XT.ii_ne_f (by decide)) ?_
        show Steps p.tables e below (T18.setTop (mkF m 68 #[.val (.int p0), .val (.int p1), .val (.int (0 : Int32)), .val (.int (1 : Int32)), .val (.ref aF), .val (.ref aT), .val (.ref aF), .unset, .unset, .unset] [])) _
        refine XS.aload X18.here hx rfl (hb hby at_68) rfl rfl ?_
        show Steps p.tables e below (T18.setTop (mkF m 70 #[.val (.int p0), .val (.int p1), .val (.int (0 : Int32)), .val (.int (1 : Int32)), .val (.ref aF), .val (.ref aT), .val (.ref aF), .unset, .unset, .unset] [(.ref aT)])) _
        refine st19.trans ?_
        show Steps p.tables e below (T19.setTop (mkF m 73 #[.val (.int p0), .val (.int p1), .val (.int (0 : Int32)), .val (.int (1 : Int32)), .val (.ref aF), .val (.ref aT), .val (.ref aF), .unset, .unset, .unset] [(.int (1 : Int32))])) _
        refine XS.iloadN X19.here hx rfl (hb hby at_73) rfl ?_
        show Steps p.tables e below (T19.setTop (mkF m 74 #[.val (.int p0), .val (.int p1), .val (.int (0 : Int32)), .val (.int (1 : Int32)), .val (.ref aF), .val (.ref aT), .val (.ref aF), .unset, .unset, .unset] [(.int (1 : Int32)), (.int (1 : Int32))])) _
        refine XS.icmpNo X19.here hx rfl (hb hby at_74) rfl (XT.ii_ne_f (by decide)) ?_
        show Steps p.tables e below (T19.setTop (mkF m 77 #[.val (.int p0), .val (.int p1), .val (.int (0 : Int32)), .val (.int (1 : Int32)), .val (.ref aF), .val (.ref aT), .val (.ref aF), .unset, .unset, .unset] [])) _
        refine XT.iconstV X19.here hx rfl (1 : Int32) (hb hby at_77) (by decide) ?_
        show Steps p.tables e below (T19.setTop (mkF m 78 #[.val (.int p0), .val (.int p1), .val (.int (0 : Int32)), .val (.int (1 : Int32)), .val (.ref aF), .val (.ref aT), .val (.ref aF), .unset, .unset, .unset] [(.int (1 : Int32))])) _
        refine XS.goto X19.here hx rfl (pc0 := 78) (pc' := 82) rfl (hb hby at_78) (by decide) (by decide) ?_
        show Steps p.tables e below (T19.setTop (mkF m 82 #[.val (.int p0), .val (.int p1), .val (.int (0 : Int32)), .val (.int (1 : Int32)), .val (.ref aF), .val (.ref aT), .val (.ref aF), .unset, .unset, .unset] [(.int (1 : Int32))])) _
        refine XS.istore X19.here hx rfl (hb hby at_82) rfl (l' := #[.val (.int p0), .val (.int p1), .val (.int (0 : Int32)), .val (.int (1 : Int32)), .val (.ref aF), .val (.ref aT), .val (.ref aF), .val (.int (1 : Int32)), .unset, .unset]) rfl ?_
        show Steps p.tables e below (T19.setTop (mkF m 84 #[.val (.int p0), .val (.int p1), .val (.int (0 : Int32)), .val (.int (1 : Int32)), .val (.ref aF), .val (.ref aT), .val (.ref aF), .val (.int (1 : Int32)), .unset, .unset] [])) _
        refine XS.aload X19.here hx rfl (hb hby at_84) rfl rfl ?_
        show Steps p.tables e below (T19.setTop (mkF m 86 #[.val (.int p0), .val (.int p1), .val (.int (0 : Int32)), .val (.int (1 : Int32)), .val (.ref aF), .val (.ref aT), .val (.ref aF), .val (.int (1 : Int32)), .unset, .unset] [(.ref aF)])) _
        refine XS.aload X19.here hx rfl (hb hby at_86) rfl rfl ?_
        show Steps p.tables e below (T19.setTop (mkF m 88 #[.val (.int p0), .val (.int p1), .val (.int (0 : Int32)), .val (.int (1 : Int32)), .val (.ref aF), .val (.ref aT), .val (.ref aF), .val (.int (1 : Int32)), .unset, .unset] [(.ref aF), (.ref aF)])) _
        refine XT.acmpNo X19.here hx rfl (hb hby at_88) rfl rfl rfl (XT.aa_ne_f rfl) ?_
        show Steps p.tables e below (T19.setTop (mkF m 91 #[.val (.int p0), .val (.int p1), .val (.int (0 : Int32)), .val (.int (1 : Int32)), .val (.ref aF), .val (.ref aT), .val (.ref aF), .val (.int (1 : Int32)), .unset, .unset] [])) _
        refine XS.aload X19.here hx rfl (hb hby at_91) rfl rfl ?_
        show Steps p.tables e below (T19.setTop (mkF m 93 #[.val (.int p0), .val (.int p1), .val (.int (0 : Int32)), .val (.int (1 : Int32)), .val (.ref aF), .val (.ref aT), .val (.ref aF), .val (.int (1 : Int32)), .unset, .unset] [(.ref aF)])) _
        refine st20 _ ?_
        show Steps p.tables e below (T20.setTop (mkF m 96 #[.val (.int p0), .val (.int p1), .val (.int (0 : Int32)), .val (.int (1 : Int32)), .val (.ref aF), .val (.ref aT), .val (.ref aF), .val (.int (1 : Int32)), .unset, .unset] [(.ref aT), (.ref aF)])) _
        refine XT.acmpNo X20.here hx rfl (hb hby at_96) rfl rfl rfl (XT.aa_eq_f (fun q => hne (Value.ref.inj q))) ?_
        show Steps p.tables e below (T20.setTop (mkF m 99 #[.val (.int p0), .val (.int p1), .val (.int (0 : Int32)), .val (.int (1 : Int32)), .val (.ref aF), .val (.ref aT), .val (.ref aF), .val (.int (1 : Int32)), .unset, .unset] [])) _
        refine XS.aload X20.here hx rfl (hb hby at_99) rfl rfl ?_
        show Steps p.tables e below (T20.setTop (mkF m 101 #[.val (.int p0), .val (.int p1), .val (.int (0 : Int32)), .val (.int (1 : Int32)), .val (.ref aF), .val (.ref aT), .val (.ref aF), .val (.int (1 : Int32)), .unset, .unset] [(.ref aF)])) _
        refine st21 _ ?_
        show Steps p.tables e below (T21.setTop (mkF m 104 #[.val (.int p0), .val (.int p1), .val (.int (0 : Int32)), .val (.int (1 : Int32)), .val (.ref aF), .val (.ref aT), .val (.ref aF), .val (.int (1 : Int32)), .unset, .unset] [(.ref aF), (.ref aF)])) _
        refine XT.acmpNo X21.here hx rfl (hb hby at_104) rfl rfl rfl (XT.aa_ne_f rfl) ?_
        show Steps p.tables e below (T21.setTop (mkF m 107 #[.val (.int p0), .val (.int p1), .val (.int (0 : Int32)), .val (.int (1 : Int32)), .val (.ref aF), .val (.ref aT), .val (.ref aF), .val (.int (1 : Int32)), .unset, .unset] [])) _
        refine XS.aload X21.here hx rfl (hb hby at_107) rfl rfl ?_
        show Steps p.tables e below (T21.setTop (mkF m 109 #[.val (.int p0), .val (.int p1), .val (.int (0 : Int32)), .val (.int (1 : Int32)), .val (.ref aF), .val (.ref aT), .val (.ref aF), .val (.int (1 : Int32)), .unset, .unset] [(.ref aT)])) _
        refine st22 _ ?_
        show Steps p.tables e below (T22.setTop (mkF m 112 #[.val (.int p0), .val (.int p1), .val (.int (0 : Int32)), .val (.int (1 : Int32)), .val (.ref aF), .val (.ref aT), .val (.ref aF), .val (.int (1 : Int32)), .unset, .unset] [(.ref aT), (.ref aT)])) _
        refine XT.acmpYes X22.here hx rfl (pc0 := 112) (pc' := 123) rfl (hb hby at_112) rfl rfl rfl (XT.aa_eq_t rfl) (by decide) (by decide) ?_
        show Steps p.tables e below (T22.setTop (mkF m 123 #[.val (.int p0), .val (.int p1), .val (.int (0 : Int32)), .val (.int (1 : Int32)), .val (.ref aF), .val (.ref aT), .val (.ref aF), .val (.int (1 : Int32)), .unset, .unset] [])) _
        refine XT.iconstV X22.here hx rfl (1 : Int32) (hb hby at_123) (by decide) ?_
        show Steps p.tables e below (T22.setTop (mkF m 124 #[.val (.int p0), .val (.int p1), .val (.int (0 : Int32)), .val (.int (1 : Int32)), .val (.ref aF), .val (.ref aT), .val (.ref aF), .val (.int (1 : Int32)), .unset, .unset] [(.int (1 : Int32))])) _
        refine XS.goto X22.here hx rfl (pc0 := 124) (pc' := 128) rfl (hb hby at_124) (by decide) (by decide) ?_
        show Steps p.tables e below (T22.setTop (mkF m 128 #[.val (.int p0), .val (.int p1), .val (.int (0 : Int32)), .val (.int (1 : Int32)), .val (.ref aF), .val (.ref aT), .val (.ref aF), .val (.int (1 : Int32)), .unset, .unset] [(.int (1 : Int32))])) _
        refine XS.istore X22.here hx rfl (hb hby at_128) rfl (l' := #[.val (.int p0), .val (.int p1), .val (.int (0 : Int32)), .val (.int (1 : Int32)), .val (.ref aF), .val (.ref aT), .val (.ref aF), .val (.int (1 : Int32)), .val (.int (1 : Int32)), .unset]) rfl ?_
        show Steps p.tables e below (T22.setTop (mkF m 130 #[.val (.int p0), .val (.int p1), .val (.int (0 : Int32)), .val (.int (1 : Int32)), .val (.ref aF), .val (.ref aT), .val (.ref aF), .val (.int (1 : Int32)), .val (.int (1 : Int32)), .unset] [])) _
        refine XS.aload X22.here hx rfl (hb hby at_130) rfl rfl ?_
        show Steps p.tables e below (T22.setTop (mkF m 132 #[.val (.int p0), .val (.int p1), .val (.int (0 : Int32)), .val (.int (1 : Int32)), .val (.ref aF), .val (.ref aT), .val (.ref aF), .val (.int (1 : Int32)), .val (.int (1 : Int32)), .unset] [(.ref aF)])) _
        refine XS.aload X22.here hx rfl (hb hby at_132) rfl rfl ?_
        show Steps p.tables e below (T22.setTop (mkF m 134 #[.val (.int p0), .val (.int p1), .val (.int (0 : Int32)), .val (.int (1 : Int32)), .val (.ref aF), .val (.ref aT), .val (.ref aF), .val (.int (1 : Int32)), .val (.int (1 : Int32)), .unset] [(.ref aT), (.ref aF)])) _
        refine XT.acmpYes X22.here hx rfl (pc0 := 134) (pc' := 141) rfl (hb hby at_134) rfl rfl rfl (XT.aa_ne_t (fun q => hne (Value.ref.inj q))) (by decide) (by decide) ?_
        show Steps p.tables e below (T22.setTop (mkF m 141 #[.val (.int p0), .val (.int p1), .val (.int (0 : Int32)), .val (.int (1 : Int32)), .val (.ref aF), .val (.ref aT), .val (.ref aF), .val (.int (1 : Int32)), .val (.int (1 : Int32)), .unset] [])) _
        refine XT.iconstV X22.here hx rfl (0 : Int32) (hb hby at_141) (by decide) ?_
        show Steps p.tables e below (T22.setTop (mkF m 142 #[.val (.int p0), .val (.int p1), .val (.int (0 : Int32)), .val (.int (1 : Int32)), .val (.ref aF), .val (.ref aT), .val (.ref aF), .val (.int (1 : Int32)), .val (.int (1 : Int32)), .unset] [(.int (0 : Int32))])) _
        refine XS.iloadN X22.here hx rfl (hb hby at_142) rfl ?_
        show Steps p.tables e below (T22.setTop (mkF m 143 #[.val (.int p0), .val (.int p1), .val (.int (0 : Int32)), .val (.int (1 : Int32)), .val (.ref aF), .val (.ref aT), .val (.ref aF), .val (.int (1 : Int32)), .val (.int (1 : Int32)), .unset] [(.int (0 : Int32)), (.int (0 : Int32))])) _
        refine XS.iloadN X22.here hx rfl (hb hby at_143) rfl ?_
        show Steps p.tables e below (T22.setTop (mkF m 144 #[.val (.int p0), .val (.int p1), .val (.int (0 : Int32)), .val (.int (1 : Int32)), .val (.ref aF), .val (.ref aT), .val (.ref aF), .val (.int (1 : Int32)), .val (.int (1 : Int32)), .unset] [(.int (1 : Int32)), (.int (0 : Int32)), (.int (0 : Int32))])) _
        refine XS.icmpYes X22.here hx rfl (pc0 := 144) (pc' := 151) rfl (hb hby at_144) rfl (XT.ii_ne_t (by decide)) (by decide) (by decide) ?_
        show Steps p.tables e below (T22.setTop (mkF m 151 #[.val (.int p0), .val (.int p1), .val (.int (0 : Int32)), .val (.int (1 : Int32)), .val (.ref aF), .val (.ref aT), .val (.ref aF), .val (.int (1 : Int32)), .val (.int (1 : Int32)), .unset] [(.int (0 : Int32))])) _
        refine XT.iconstV X22.here hx rfl (0 : Int32) (hb hby at_151) (by decide) ?_
        show Steps p.tables e below (T22.setTop (mkF m 152 #[.val (.int p0), .val (.int p1), .val (.int (0 : Int32)), .val (.int (1 : Int32)), .val (.ref aF), .val (.ref aT), .val (.ref aF), .val (.int (1 : Int32)), .val (.int (1 : Int32)), .unset] [(.int (0 : Int32)), (.int (0 : Int32))])) _
        refine XS.icmpNo X22.here hx rfl (hb hby at_152) rfl (XT.ii_ne_f (by decide)) ?_
        show Steps p.tables e below (T22.setTop (mkF m 155 #[.val (.int p0), .val (.int p1), .val (.int (0 : Int32)), .val (.int (1 : Int32)), .val (.ref aF), .val (.ref aT), .val (.ref aF), .val (.int (1 : Int32)), .val (.int (1 : Int32)), .unset] [])) _
        refine XT.iconstV X22.here hx rfl (1 : Int32) (hb hby at_155) (by decide) ?_
        show Steps p.tables e below (T22.setTop (mkF m 156 #[.val (.int p0), .val (.int p1), .val (.int (0 : Int32)), .val (.int (1 : Int32)), .val (.ref aF), .val (.ref aT), .val (.ref aF), .val (.int (1 : Int32)), .val (.int (1 : Int32)), .unset] [(.int (1 : Int32))])) _
        refine XS.goto X22.here hx rfl (pc0 := 156) (pc' := 160) rfl (hb hby at_156) (by decide) (by decide) ?_
        show Steps p.tables e below (T22.setTop (mkF m 160 #[.val (.int p0), .val (.int p1), .val (.int (0 : Int32)), .val (.int (1 : Int32)), .val (.ref aF), .val (.ref aT), .val (.ref aF), .val (.int (1 : Int32)), .val (.int (1 : Int32)), .unset] [(.int (1 : Int32))])) _
        refine XS.istore X22.here hx rfl (hb hby at_160) rfl (l' := #[.val (.int p0), .val (.int p1), .val (.int (0 : Int32)), .val (.int (1 : Int32)), .val (.ref aF), .val (.ref aT), .val (.ref aF), .val (.int (1 : Int32)), .val (.int (1 : Int32)), .val (.int (1 : Int32))]) rfl ?_
        show Steps p.tables e below (T22.setTop (mkF m 162 #[.val (.int p0), .val (.int p1), .val (.int (0 : Int32)), .val (.int (1 : Int32)), .val (.ref aF), .val (.ref aT), .val (.ref aF), .val (.int (1 : Int32)), .val (.int (1 : Int32)), .val (.int (1 : Int32))] [])) _
        refine XS.iload X22.here hx rfl (hb hby at_162) rfl ?_
        show Steps p.tables e below (T22.setTop (mkF m 164 #[.val (.int p0), .val (.int p1), .val (.int (0 : Int32)), .val (.int (1 : Int32)), .val (.ref aF), .val (.ref aT), .val (.ref aF), .val (.int (1 : Int32)), .val (.int (1 : Int32)), .val (.int (1 : Int32))] [(.int (1 : Int32))])) _
        refine XS.ifNo X22.here hx rfl (hb hby at_164) rfl (XT.i0_eq_f (by decide)) ?_
        show Steps p.tables e below (T22.setTop (mkF m 167 #[.val (.int p0), .val (.int p1), .val (.int (0 : Int32)), .val (.int (1 : Int32)), .val (.ref aF), .val (.ref aT), .val (.ref aF), .val (.int (1 : Int32)), .val (.int (1 : Int32)), .val (.int (1 : Int32))] [])) _
        refine XS.iload X22.here hx rfl (hb hby at_167) rfl ?_
        show Steps p.tables e below (T22.setTop (mkF m 169 #[.val (.int p0), .val (.int p1), .val (.int (0 : Int32)), .val (.int (1 : Int32)), .val (.ref aF), .val (.ref aT), .val (.ref aF), .val (.int (1 : Int32)), .val (.int (1 : Int32)), .val (.int (1 : Int32))] [(.int (1 : Int32))])) _
        refine XS.ifNo X22.here hx rfl (hb hby at_169) rfl (XT.i0_eq_f (by decide)) ?_
        show Steps p.tables e below (T22.setTop (mkF m 172 #[.val (.int p0), .val (.int p1), .val (.int (0 : Int32)), .val (.int (1 : Int32)), .val (.ref aF), .val (.ref aT), .val (.ref aF), .val (.int (1 : Int32)), .val (.int (1 : Int32)), .val (.int (1 : Int32))] [])) _
        refine XS.iload X22.here hx rfl (hb hby at_172) rfl ?_
        show Steps p.tables e below (T22.setTop (mkF m 174 #[.val (.int p0), .val (.int p1), .val (.int (0 : Int32)), .val (.int (1 : Int32)), .val (.ref aF), .val (.ref aT), .val (.ref aF), .val (.int (1 : Int32)), .val (.int (1 : Int32)), .val (.int (1 : Int32))] [(.int (1 : Int32))])) _
        refine XS.ifNo X22.here hx rfl (hb hby at_174) rfl (XT.i0_eq_f (by decide)) ?_
        show Steps p.tables e below (T22.setTop (mkF m 177 #[.val (.int p0), .val (.int p1), .val (.int (0 : Int32)), .val (.int (1 : Int32)), .val (.ref aF), .val (.ref aT), .val (.ref aF), .val (.int (1 : Int32)), .val (.int (1 : Int32)), .val (.int (1 : Int32))] [])) _
        refine XT.iconstV X22.here hx rfl (1 : Int32) (hb hby at_177) (by decide) ?_
        show Steps p.tables e below (T22.setTop (mkF m 178 #[.val (.int p0), .val (.int p1), .val (.int (0 : Int32)), .val (.int (1 : Int32)), .val (.ref aF), .val (.ref aT), .val (.ref aF), .val (.int (1 : Int32)), .val (.int (1 : Int32)), .val (.int (1 : Int32))] [(.int (1 : Int32))])) _
        refine XS.goto X22.here hx rfl (pc0 := 178) (pc' := 182) rfl (hb hby at_178) (by decide) (by decide) ?_
        show Steps p.tables e below (T22.setTop (mkF m 182 #[.val (.int p0), .val (.int p1), .val (.int (0 : Int32)), .val (.int (1 : Int32)), .val (.ref aF), .val (.ref aT), .val (.ref aF), .val (.int (1 : Int32)), .val (.int (1 : Int32)), .val (.int (1 : Int32))] [(.int (1 : Int32))])) _
        exact k)
      obtain ⟨fs, hr, hrun, hended, hW, hsame⟩ := X22.leave (v := some (.int (1 : Int32))) (fun h => by rw [Bd.returns] at h; cases h)
      refine ⟨_, _, pre0 _ (S23 _ ?_), hrun, hended, _, _, rfl, ?_, ⟨_, rfl⟩, hW, hsame.mono (by decide) (by decide)⟩
      · exact retN X22 hx (t := .boolean) Bd.returns (by simp) (hb hby at_182) hr
      · show Qrm0 Z p0 p1 aT aF h0 n0 _ T22.heap _
        rw [e22]
        exact ⟨rfl, N19⟩
  · have S24 : ∀ t, Steps p.tables e below (s₁.setTop (mkF m 15 #[.val (.int p0), .val (.int p1), .val (.int (1 : Int32)), .unset, .unset, .unset, .unset, .unset, .unset, .unset] [(.int (p1 &&& (1 : Int32)))])) t → Steps p.tables e below (s₁.setTop (mkF m 0 #[.val (.int p0), .val (.int p1), .unset, .unset, .unset, .unset, .unset, .unset, .unset, .unset] [])) t := fun t k => S1 t (by
      show Steps p.tables e below (s₁.setTop (mkF m 3 #[.val (.int p0), .val (.int p1), .unset, .unset, .unset, .unset, .unset, .unset, .unset, .unset] [(.int (p0 &&& (1 : Int32)))])) _
      refine XS.ifNo X0.here hx rfl (hb hby at_3) rfl (XT.i0_eq_f hc3_2) ?_
      show Steps p.tables e below (s₁.setTop (mkF m 6 #[.val (.int p0), .val (.int p1), .unset, .unset, .unset, .unset, .unset, .unset, .unset, .unset] [])) _
      refine XT.iconstV X0.here hx rfl (1 : Int32) (hb hby at_6) (by decide) ?_
      show Steps p.tables e below (s₁.setTop (mkF m 7 #[.val (.int p0), .val (.int p1), .unset, .unset, .unset, .unset, .unset, .unset, .unset, .unset] [(.int (1 : Int32))])) _
      refine XS.goto X0.here hx rfl (pc0 := 7) (pc' := 11) rfl (hb hby at_7) (by decide) (by decide) ?_
      show Steps p.tables e below (s₁.setTop (mkF m 11 #[.val (.int p0), .val (.int p1), .unset, .unset, .unset, .unset, .unset, .unset, .unset, .unset] [(.int (1 : Int32))])) _
      refine XS.istoreN X0.here hx rfl (hb hby at_11) rfl (l' := #[.val (.int p0), .val (.int p1), .val (.int (1 : Int32)), .unset, .unset, .unset, .unset, .unset, .unset, .unset]) rfl ?_
      show Steps p.tables e below (s₁.setTop (mkF m 12 #[.val (.int p0), .val (.int p1), .val (.int (1 : Int32)), .unset, .unset, .unset, .unset, .unset, .unset, .unset] [])) _
      refine XS.iloadN X0.here hx rfl (hb hby at_12) rfl ?_
      show Steps p.tables e below (s₁.setTop (mkF m 13 #[.val (.int p0), .val (.int p1), .val (.int (1 : Int32)), .unset, .unset, .unset, .unset, .unset, .unset, .unset] [(.int p1)])) _
      refine XT.iconstV X0.here hx rfl (1 : Int32) (hb hby at_13) (by decide) ?_
      show Steps p.tables e below (s₁.setTop (mkF m 14 #[.val (.int p0), .val (.int p1), .val (.int (1 : Int32)), .unset, .unset, .unset, .unset, .unset, .unset, .unset] [(.int (1 : Int32)), (.int p1)])) _
      refine XS.iand X0.here hx rfl (hb hby at_14) rfl ?_
      show Steps p.tables e below (s₁.setTop (mkF m 15 #[.val (.int p0), .val (.int p1), .val (.int (1 : Int32)), .unset, .unset, .unset, .unset, .unset, .unset, .unset] [(.int (p1 &&& (1 : Int32)))])) _
      exact k)
    by_cases hc15_25 : (p1 &&& (1 : Int32)) = (0 : Int32)
    · obtain ⟨_, _, ⟨T26, L26, k26, n26⟩, -, X26, ⟨Lc26, hQ26, l26, y26, z26⟩, st26⟩ := Jvm.LawKit.callS X0 hx (y := (⟨"com/example/bare_refinement/barerefinement/exploration/BooleanValue", "of", "(Z)Lcom/example/bare_refinement/barerefinement/exploration/BooleanValue;"⟩ : MethodName)) hown (mvT hZ (hw _ (List.mem_of_getElem? (i := 0) rfl))) (mvT hZ (hw _ (List.mem_of_getElem? (i := 1) rfl))) (mvT hZ (hw _ (List.mem_of_getElem? (i := 2) rfl))) (mvT hZ (hw _ (List.mem_of_getElem? (i := 3) rfl))) (by decide) (backOf (W := 0) (rmOf1 l Z av0 hw [] aT h0 n0 Z0 hSaT) hZ (hw _ (List.mem_of_getElem? (i := 3) rfl)) (hw _ (List.mem_of_getElem? (i := 2) rfl)) (by decide) (by decide)) (g := (mkF m 25 #[.val (.int p0), .val (.int p1), .val (.int (1 : Int32)), .val (.int (0 : Int32)), .unset, .unset, .unset, .unset, .unset, .unset] [(.int (1 : Int32))])) rfl (by rw [hml]; rfl) (argsL := [(.int (1 : Int32))]) (rest := []) (lenOf pd__Z_Lcom_example_bare_refinement_barerefinement_exploration_BooleanValue_ rfl) rfl (by show 2 * 0 + _ ≤ _; exact Nat.le_of_eq rfl) (hb hby at_25) (fun _ _ => ⟨rfl, e0, (by decide : 0 + 0 ≤ _), (by decide : 0 + 0 ≤ _)⟩)
      dsimp only [Pt.U, Pt.locs, Pt.cells, Pt.slots] at X26 l26 y26 z26 st26 hQ26
      subst l26 y26 z26
      obtain ⟨rfl, N26q, hh26⟩ := hQ26
      have N26 := Fr.app N0 N26q
      have e26 : T26.heap = h0 := hh26
      obtain ⟨_, _, ⟨T27, L27, k27, n27⟩, -, X27, ⟨Lc27, hQ27, l27, y27, z27⟩, st27⟩ := Jvm.LawKit.callS X26 hx (y := (⟨"com/example/bare_refinement/barerefinement/exploration/BooleanValue", "of", "(Z)Lcom/example/bare_refinement/barerefinement/exploration/BooleanValue;"⟩ : MethodName)) hown (mvT hZ (hw _ (List.mem_of_getElem? (i := 0) rfl))) (mvT hZ (hw _ (List.mem_of_getElem? (i := 1) rfl))) (mvT hZ (hw _ (List.mem_of_getElem? (i := 2) rfl))) (mvT hZ (hw _ (List.mem_of_getElem? (i := 3) rfl))) (by decide) (backOf (W := 0) (rmOf0 l Z av0 hw [] aF h0 n0 Z0 hSaF) hZ (hw _ (List.mem_of_getElem? (i := 3) rfl)) (hw _ (List.mem_of_getElem? (i := 2) rfl)) (by decide) (by decide)) (g := (mkF m 31 #[.val (.int p0), .val (.int p1), .val (.int (1 : Int32)), .val (.int (0 : Int32)), .val (.ref aT), .unset, .unset, .unset, .unset, .unset] [(.int (0 : Int32))])) rfl (by rw [hml]; rfl) (argsL := [(.int (0 : Int32))]) (rest := []) (lenOf pd__Z_Lcom_example_bare_refinement_barerefinement_exploration_BooleanValue_ rfl) rfl (by show 2 * 0 + _ ≤ _; exact Nat.le_of_eq rfl) (hb hby at_31) (fun _ _ => ⟨rfl, e26, (by decide : 0 + 0 ≤ _), (by decide : 0 + 0 ≤ _)⟩)
      dsimp only [Pt.U, Pt.locs, Pt.cells, Pt.slots] at X27 l27 y27 z27 st27 hQ27
      subst l27 y27 z27
      obtain ⟨rfl, N27q, hh27⟩ := hQ27
      have N27 := Fr.app N26 N27q
      have e27 : T27.heap = h0 := hh27
      obtain ⟨_, _, ⟨T28, L28, k28, n28⟩, -, X28, ⟨Lc28, hQ28, l28, y28, z28⟩, st28⟩ := Jvm.LawKit.callS X27 hx (y := (⟨"com/example/bare_refinement/barerefinement/exploration/BooleanValue", "of", "(Z)Lcom/example/bare_refinement/barerefinement/exploration/BooleanValue;"⟩ : MethodName)) hown (mvT hZ (hw _ (List.mem_of_getElem? (i := 0) rfl))) (mvT hZ (hw _ (List.mem_of_getElem? (i := 1) rfl))) (mvT hZ (hw _ (List.mem_of_getElem? (i := 2) rfl))) (mvT hZ (hw _ (List.mem_of_getElem? (i := 3) rfl))) (by decide) (backOf (W := 0) (rmOf1 l Z av0 hw [] aT h0 n0 Z0 hSaT) hZ (hw _ (List.mem_of_getElem? (i := 3) rfl)) (hw _ (List.mem_of_getElem? (i := 2) rfl)) (by decide) (by decide)) (g := (mkF m 37 #[.val (.int p0), .val (.int p1), .val (.int (1 : Int32)), .val (.int (0 : Int32)), .val (.ref aT), .val (.ref aF), .unset, .unset, .unset, .unset] [(.int (1 : Int32))])) rfl (by rw [hml]; rfl) (argsL := [(.int (1 : Int32))]) (rest := []) (lenOf pd__Z_Lcom_example_bare_refinement_barerefinement_exploration_BooleanValue_ rfl) rfl (by show 2 * 0 + _ ≤ _; exact Nat.le_of_eq rfl) (hb hby at_37) (fun _ _ => ⟨rfl, e27, (by decide : 0 + 0 ≤ _), (by decide : 0 + 0 ≤ _)⟩)
      dsimp only [Pt.U, Pt.locs, Pt.cells, Pt.slots] at X28 l28 y28 z28 st28 hQ28
      subst l28 y28 z28
      obtain ⟨rfl, N28q, hh28⟩ := hQ28
      have N28 := Fr.app N27 N28q
      have e28 : T28.heap = h0 := hh28
      obtain ⟨cq29, kq29, q29a, q29b, q29c⟩ := isOf hZ e28 hEaT
      obtain ⟨_, _, ⟨T29, L29, k29, n29⟩, -, X29, ⟨Lc29, hQ29, l29, y29, z29⟩, st29⟩ := X28.virtualBack hx (y := (⟨"com/example/bare_refinement/barerefinement/exploration/BooleanValue", "get", "()Z"⟩ : MethodName)) (z := (⟨"com/example/bare_refinement/barerefinement/exploration/BooleanValue", "get", "()Z"⟩ : MethodName)) hown (mvT hZ (hw _ (List.mem_of_getElem? (i := 8) rfl))) (mvT hZ (hw _ (List.mem_of_getElem? (i := 9) rfl))) (notFace_of_selects (args := #[]) (mvT hZ (hw _ (List.mem_of_getElem? (i := 11) rfl)))) (mvT hZ (hw _ (List.mem_of_getElem? (i := 11) rfl))) (mvT hZ (hw _ (List.mem_of_getElem? (i := 10) rfl))) (by decide) (backOf (W := 0) (rmGet1 l Z av0 hw [] aT h0 n0 Z0 hVaT) hZ (hw _ (List.mem_of_getElem? (i := 12) rfl)) (hw _ (List.mem_of_getElem? (i := 2) rfl)) (by decide) (by decide)) q29a q29c (g := (mkF m 61 #[.val (.int p0), .val (.int p1), .val (.int (1 : Int32)), .val (.int (0 : Int32)), .val (.ref aT), .val (.ref aF), .val (.ref aT), .unset, .unset, .unset] [(.ref aT)])) rfl (by rw [hml]; rfl) (Steps.refl _) (argsL := []) (rest := []) (lenOf pd__Z rfl) rfl (by show 2 * 0 + _ ≤ _; exact Nat.le_of_eq rfl) (hb hby at_61) (fun _ _ => ⟨rfl, e28, (by decide : 0 + 0 ≤ _), (by decide : 0 + 0 ≤ _)⟩)
      dsimp only [Pt.U, Pt.locs, Pt.cells, Pt.slots] at X29 l29 y29 z29 st29 hQ29
      subst l29 y29 z29
      obtain ⟨rfl, N29q, hh29⟩ := hQ29
      have N29 := Fr.app N28 N29q
      have e29 : T29.heap = h0 := hh29
      obtain ⟨cq30, kq30, q30a, q30b, q30c⟩ := isOf hZ e29 hEaF
      obtain ⟨_, _, ⟨T30, L30, k30, n30⟩, -, X30, ⟨Lc30, hQ30, l30, y30, z30⟩, st30⟩ := X29.virtualBack hx (y := (⟨"com/example/bare_refinement/barerefinement/exploration/BooleanValue", "get", "()Z"⟩ : MethodName)) (z := (⟨"com/example/bare_refinement/barerefinement/exploration/BooleanValue", "get", "()Z"⟩ : MethodName)) hown (mvT hZ (hw _ (List.mem_of_getElem? (i := 8) rfl))) (mvT hZ (hw _ (List.mem_of_getElem? (i := 9) rfl))) (notFace_of_selects (args := #[]) (mvT hZ (hw _ (List.mem_of_getElem? (i := 11) rfl)))) (mvT hZ (hw _ (List.mem_of_getElem? (i := 11) rfl))) (mvT hZ (hw _ (List.mem_of_getElem? (i := 10) rfl))) (by decide) (backOf (W := 0) (rmGet0 l Z av0 hw [] aF h0 n0 Z0 hVaF) hZ (hw _ (List.mem_of_getElem? (i := 12) rfl)) (hw _ (List.mem_of_getElem? (i := 2) rfl)) (by decide) (by decide)) q30a q30c (g := (mkF m 70 #[.val (.int p0), .val (.int p1), .val (.int (1 : Int32)), .val (.int (0 : Int32)), .val (.ref aT), .val (.ref aF), .val (.ref aT), .unset, .unset, .unset] [(.ref aF)])) rfl (by rw [hml]; rfl) (Steps.refl _) (argsL := []) (rest := []) (lenOf pd__Z rfl) rfl (by show 2 * 0 + _ ≤ _; exact Nat.le_of_eq rfl) (hb hby at_70) (fun _ _ => ⟨rfl, e29, (by decide : 0 + 0 ≤ _), (by decide : 0 + 0 ≤ _)⟩)
      dsimp only [Pt.U, Pt.locs, Pt.cells, Pt.slots] at X30 l30 y30 z30 st30 hQ30
      subst l30 y30 z30
      obtain ⟨rfl, N30q, hh30⟩ := hQ30
      have N30 := Fr.app N29 N30q
      have e30 : T30.heap = h0 := hh30
      obtain ⟨T31, X31, e31, st31⟩ := getS2 X30 hx hZ hown (host := "") (Or.inl (hw _ (List.mem_of_getElem? (i := 15) rfl))) Via.refl e30 hSaT (g := (mkF m 93 #[.val (.int p0), .val (.int p1), .val (.int (1 : Int32)), .val (.int (0 : Int32)), .val (.ref aT), .val (.ref aF), .val (.ref aT), .val (.int (1 : Int32)), .unset, .unset] [(.ref aT)])) rfl (hb hby at_93)
      obtain ⟨T32, X32, e32, st32⟩ := getS2 X31 hx hZ hown (host := "") (Or.inl (hw _ (List.mem_of_getElem? (i := 15) rfl))) Via.refl e31 hSaT (g := (mkF m 109 #[.val (.int p0), .val (.int p1), .val (.int (1 : Int32)), .val (.int (0 : Int32)), .val (.ref aT), .val (.ref aF), .val (.ref aT), .val (.int (1 : Int32)), .unset, .unset] [(.ref aF)])) rfl (hb hby at_109)
      obtain ⟨T33, X33, e33, st33⟩ := getS2 X32 hx hZ hown (host := "") (Or.inl (hw _ (List.mem_of_getElem? (i := 16) rfl))) Via.refl e32 hSaF (g := (mkF m 117 #[.val (.int p0), .val (.int p1), .val (.int (1 : Int32)), .val (.int (0 : Int32)), .val (.ref aT), .val (.ref aF), .val (.ref aT), .val (.int (1 : Int32)), .unset, .unset] [(.ref aF)])) rfl (hb hby at_117)
      have S34 : ∀ t, Steps p.tables e below (T33.setTop (mkF m 182 #[.val (.int p0), .val (.int p1), .val (.int (1 : Int32)), .val (.int (0 : Int32)), .val (.ref aT), .val (.ref aF), .val (.ref aT), .val (.int (1 : Int32)), .val (.int (1 : Int32)), .val (.int (1 : Int32))] [(.int (1 : Int32))])) t → Steps p.tables e below (s₁.setTop (mkF m 0 #[.val (.int p0), .val (.int p1), .unset, .unset, .unset, .unset, .unset, .unset, .unset, .unset] [])) t := fun t k => S24 t (by
        show Steps p.tables e below (s₁.setTop (mkF m 15 #[.val (.int p0), .val (.int p1), .val (.int (1 : Int32)), .unset, .unset, .unset, .unset, .unset, .unset, .unset] [(.int (p1 &&& (1 : Int32)))])) _
        refine XS.ifYes X0.here hx rfl (pc0 := 15) (pc' := 22) rfl (hb hby at_15) rfl (XT.i0_eq_t hc15_25) (by decide) (by decide) ?_
        show Steps p.tables e below (s₁.setTop (mkF m 22 #[.val (.int p0), .val (.int p1), .val (.int (1 : Int32)), .unset, .unset, .unset, .unset, .unset, .unset, .unset] [])) _
        refine XT.iconstV X0.here hx rfl (0 : Int32) (hb hby at_22) (by decide) ?_
        show Steps p.tables e below (s₁.setTop (mkF m 23 #[.val (.int p0), .val (.int p1), .val (.int (1 : Int32)), .unset, .unset, .unset, .unset, .unset, .unset, .unset] [(.int (0 : Int32))])) _
        refine XS.istoreN X0.here hx rfl (hb hby at_23) rfl (l' := #[.val (.int p0), .val (.int p1), .val (.int (1 : Int32)), .val (.int (0 : Int32)), .unset, .unset, .unset, .unset, .unset, .unset]) rfl ?_
        show Steps p.tables e below (s₁.setTop (mkF m 24 #[.val (.int p0), .val (.int p1), .val (.int (1 : Int32)), .val (.int (0 : Int32)), .unset, .unset, .unset, .unset, .unset, .unset] [])) _
        refine XS.iloadN X0.here hx rfl (hb hby at_24) rfl ?_
        show Steps p.tables e below (s₁.setTop (mkF m 25 #[.val (.int p0), .val (.int p1), .val (.int (1 : Int32)), .val (.int (0 : Int32)), .unset, .unset, .unset, .unset, .unset, .unset] [(.int (1 : Int32))])) _
        refine st26 _ ?_
        show Steps p.tables e below (T26.setTop (mkF m 28 #[.val (.int p0), .val (.int p1), .val (.int (1 : Int32)), .val (.int (0 : Int32)), .unset, .unset, .unset, .unset, .unset, .unset] [(.ref aT)])) _
        refine XS.astore X26.here hx rfl (hb hby at_28) rfl rfl (l' := #[.val (.int p0), .val (.int p1), .val (.int (1 : Int32)), .val (.int (0 : Int32)), .val (.ref aT), .unset, .unset, .unset, .unset, .unset]) rfl ?_
        show Steps p.tables e below (T26.setTop (mkF m 30 #[.val (.int p0), .val (.int p1), .val (.int (1 : Int32)), .val (.int (0 : Int32)), .val (.ref aT), .unset, .unset, .unset, .unset, .unset] [])) _
        refine XS.iloadN X26.here hx rfl (hb hby at_30) rfl ?_
        show Steps p.tables e below (T26.setTop (mkF m 31 #[.val (.int p0), .val (.int p1), .val (.int (1 : Int32)), .val (.int (0 : Int32)), .val (.ref aT), .unset, .unset, .unset, .unset, .unset] [(.int (0 : Int32))])) _
        refine st27 _ ?_
        show Steps p.tables e below (T27.setTop (mkF m 34 #[.val (.int p0), .val (.int p1), .val (.int (1 : Int32)), .val (.int (0 : Int32)), .val (.ref aT), .unset, .unset, .unset, .unset, .unset] [(.ref aF)])) _
        refine XS.astore X27.here hx rfl (hb hby at_34) rfl rfl (l' := #[.val (.int p0), .val (.int p1), .val (.int (1 : Int32)), .val (.int (0 : Int32)), .val (.ref aT), .val (.ref aF), .unset, .unset, .unset, .unset]) rfl ?_
        show Steps p.tables e below (T27.setTop (mkF m 36 #[.val (.int p0), .val (.int p1), .val (.int (1 : Int32)), .val (.int (0 : Int32)), .val (.ref aT), .val (.ref aF), .unset, .unset, .unset, .unset] [])) _
        refine XS.iloadN X27.here hx rfl (hb hby at_36) rfl ?_
        show Steps p.tables e below (T27.setTop (mkF m 37 #[.val (.int p0), .val (.int p1), .val (.int (1 : Int32)), .val (.int (0 : Int32)), .val (.ref aT), .val (.ref aF), .unset, .unset, .unset, .unset] [(.int (1 : Int32))])) _
        refine st28 _ ?_
        show Steps p.tables e below (T28.setTop (mkF m 40 #[.val (.int p0), .val (.int p1), .val (.int (1 : Int32)), .val (.int (0 : Int32)), .val (.ref aT), .val (.ref aF), .unset, .unset, .unset, .unset] [(.ref aT)])) _
        refine XS.astore X28.here hx rfl (hb hby at_40) rfl rfl (l' := #[.val (.int p0), .val (.int p1), .val (.int (1 : Int32)), .val (.int (0 : Int32)), .val (.ref aT), .val (.ref aF), .val (.ref aT), .unset, .unset, .unset]) rfl ?_
        show Steps p.tables e below (T28.setTop (mkF m 42 #[.val (.int p0), .val (.int p1), .val (.int (1 : Int32)), .val (.int (0 : Int32)), .val (.ref aT), .val (.ref aF), .val (.ref aT), .unset, .unset, .unset] [])) _
        refine XS.aload X28.here hx rfl (hb hby at_42) rfl rfl ?_
        show Steps p.tables e below (T28.setTop (mkF m 44 #[.val (.int p0), .val (.int p1), .val (.int (1 : Int32)), .val (.int (0 : Int32)), .val (.ref aT), .val (.ref aF), .val (.ref aT), .unset, .unset, .unset] [(.ref aT)])) _
        refine XS.ifnullNo X28.here hx rfl (hb hby at_44) rfl ?_
        show Steps p.tables e below (T28.setTop (mkF m 47 #[.val (.int p0), .val (.int p1), .val (.int (1 : Int32)), .val (.int (0 : Int32)), .val (.ref aT), .val (.ref aF), .val (.ref aT), .unset, .unset, .unset] [])) _
        refine XS.aload X28.here hx rfl (hb hby at_47) rfl rfl ?_
        show Steps p.tables e below (T28.setTop (mkF m 49 #[.val (.int p0), .val (.int p1), .val (.int (1 : Int32)), .val (.int (0 : Int32)), .val (.ref aT), .val (.ref aF), .val (.ref aT), .unset, .unset, .unset] [(.ref aF)])) _
        refine XS.ifnullNo X28.here hx rfl (hb hby at_49) rfl ?_
        show Steps p.tables e below (T28.setTop (mkF m 52 #[.val (.int p0), .val (.int p1), .val (.int (1 : Int32)), .val (.int (0 : Int32)), .val (.ref aT), .val (.ref aF), .val (.ref aT), .unset, .unset, .unset] [])) _
        refine XS.aload X28.here hx rfl (hb hby at_52) rfl rfl ?_
        show Steps p.tables e below (T28.setTop (mkF m 54 #[.val (.int p0), .val (.int p1), .val (.int (1 : Int32)), .val (.int (0 : Int32)), .val (.ref aT), .val (.ref aF), .val (.ref aT), .unset, .unset, .unset] [(.ref aT)])) _
        refine XT.ifnonnullYes X28.here hx rfl (pc0 := 54) (pc' := 59) rfl (hb hby at_54) rfl (by decide) (by decide) ?_
        show Steps p.tables e below (T28.setTop (mkF m 59 #[.val (.int p0), .val (.int p1), .val (.int (1 : Int32)), .val (.int (0 : Int32)), .val (.ref aT), .val (.ref aF), .val (.ref aT), .unset, .unset, .unset] [])) _
        refine XS.aload X28.here hx rfl (hb hby at_59) rfl rfl ?_
        show Steps p.tables e below (T28.setTop (mkF m 61 #[.val (.int p0), .val (.int p1), .val (.int (1 : Int32)), .val (.int (0 : Int32)), .val (.ref aT), .val (.ref aF), .val (.ref aT), .unset, .unset, .unset] [(.ref aT)])) _
        refine st29.trans ?_
        show Steps p.tables e below (T29.setTop (mkF m 64 #[.val (.int p0), .val (.int p1), .val (.int (1 : Int32)), .val (.int (0 : Int32)), .val (.ref aT), .val (.ref aF), .val (.ref aT), .unset, .unset, .unset] [(.int (1 : Int32))])) _
        refine XS.iloadN X29.here hx rfl (hb hby at_64) rfl ?_
        show Steps p.tables e below (T29.setTop (mkF m 65 #[.val (.int p0), .val (.int p1), .val (.int (1 : Int32)), .val (.int (0 : Int32)), .val (.ref aT), .val (.ref aF), .val (.ref aT), .unset, .unset, .unset] [(.int (1 : Int32)), (.int (1 : Int32))])) _
        refine XS.icmpNo X29.here hx rfl (hb hby at_65) rfl (XT.ii_ne_f (by decide)) ?_
        show Steps p.tables e below (T29.setTop (mkF m 68 #[.val (.int p0), .val (.int p1), .val (.int (1 : Int32)), .val (.int (0 : Int32)), .val (.ref aT), .val (.ref aF), .val (.ref aT), .unset, .unset, .unset] [])) _
        refine XS.aload X29.here hx rfl (hb hby at_68) rfl rfl ?_
        show Steps p.tables e below (T29.setTop (mkF m 70 #[.val (.int p0), .val (.int p1), .val (.int (1 : Int32)), .val (.int (0 : Int32)), .val (.ref aT), .val (.ref aF), .val (.ref aT), .unset, .unset, .unset] [(.ref aF)])) _
        refine st30.trans ?_
        show Steps p.tables e below (T30.setTop (mkF m 73 #[.val (.int p0), .val (.int p1), .val (.int (1 : Int32)), .val (.int (0 : Int32)), .val (.ref aT), .val (.ref aF), .val (.ref aT), .unset, .unset, .unset] [(.int (0 : Int32))])) _
        refine XS.iloadN X30.here hx rfl (hb hby at_73) rfl ?_
        show Steps p.tables e below (T30.setTop (mkF m 74 #[.val (.int p0), .val (.int p1), .val (.int (1 : Int32)), .val (.int (0 : Int32)), .val (.ref aT), .val (.ref aF), .val (.ref aT), .unset, .unset, .unset] [(.int (0 : Int32)), (.int (0 : Int32))])) _
        refine XS.icmpNo X30.here hx rfl (hb hby at_74) rfl (XT.ii_ne_f (by decide)) ?_
        show Steps p.tables e below (T30.setTop (mkF m 77 #[.val (.int p0), .val (.int p1), .val (.int (1 : Int32)), .val (.int (0 : Int32)), .val (.ref aT), .val (.ref aF), .val (.ref aT), .unset, .unset, .unset] [])) _
        refine XT.iconstV X30.here hx rfl (1 : Int32) (hb hby at_77) (by decide) ?_
        show Steps p.tables e below (T30.setTop (mkF m 78 #[.val (.int p0), .val (.int p1), .val (.int (1 : Int32)), .val (.int (0 : Int32)), .val (.ref aT), .val (.ref aF), .val (.ref aT), .unset, .unset, .unset] [(.int (1 : Int32))])) _
        refine XS.goto X30.here hx rfl (pc0 := 78) (pc' := 82) rfl (hb hby at_78) (by decide) (by decide) ?_
        show Steps p.tables e below (T30.setTop (mkF m 82 #[.val (.int p0), .val (.int p1), .val (.int (1 : Int32)), .val (.int (0 : Int32)), .val (.ref aT), .val (.ref aF), .val (.ref aT), .unset, .unset, .unset] [(.int (1 : Int32))])) _
        refine XS.istore X30.here hx rfl (hb hby at_82) rfl (l' := #[.val (.int p0), .val (.int p1), .val (.int (1 : Int32)), .val (.int (0 : Int32)), .val (.ref aT), .val (.ref aF), .val (.ref aT), .val (.int (1 : Int32)), .unset, .unset]) rfl ?_
        show Steps p.tables e below (T30.setTop (mkF m 84 #[.val (.int p0), .val (.int p1), .val (.int (1 : Int32)), .val (.int (0 : Int32)), .val (.ref aT), .val (.ref aF), .val (.ref aT), .val (.int (1 : Int32)), .unset, .unset] [])) _
        refine XS.aload X30.here hx rfl (hb hby at_84) rfl rfl ?_
        show Steps p.tables e below (T30.setTop (mkF m 86 #[.val (.int p0), .val (.int p1), .val (.int (1 : Int32)), .val (.int (0 : Int32)), .val (.ref aT), .val (.ref aF), .val (.ref aT), .val (.int (1 : Int32)), .unset, .unset] [(.ref aT)])) _
        refine XS.aload X30.here hx rfl (hb hby at_86) rfl rfl ?_
        show Steps p.tables e below (T30.setTop (mkF m 88 #[.val (.int p0), .val (.int p1), .val (.int (1 : Int32)), .val (.int (0 : Int32)), .val (.ref aT), .val (.ref aF), .val (.ref aT), .val (.int (1 : Int32)), .unset, .unset] [(.ref aT), (.ref aT)])) _
        refine XT.acmpNo X30.here hx rfl (hb hby at_88) rfl rfl rfl (XT.aa_ne_f rfl) ?_
        show Steps p.tables e below (T30.setTop (mkF m 91 #[.val (.int p0), .val (.int p1), .val (.int (1 : Int32)), .val (.int (0 : Int32)), .val (.ref aT), .val (.ref aF), .val (.ref aT), .val (.int (1 : Int32)), .unset, .unset] [])) _
        refine XS.aload X30.here hx rfl (hb hby at_91) rfl rfl ?_
        show Steps p.tables e below (T30.setTop (mkF m 93 #[.val (.int p0), .val (.int p1), .val (.int (1 : Int32)), .val (.int (0 : Int32)), .val (.ref aT), .val (.ref aF), .val (.ref aT), .val (.int (1 : Int32)), .unset, .unset] [(.ref aT)])) _
        refine st31 _ ?_
        show Steps p.tables e below (T31.setTop (mkF m 96 #[.val (.int p0), .val (.int p1), .val (.int (1 : Int32)), .val (.int (0 : Int32)), .val (.ref aT), .val (.ref aF), .val (.ref aT), .val (.int (1 : Int32)), .unset, .unset] [(.ref aT), (.ref aT)])) _
        refine XT.acmpYes X31.here hx rfl (pc0 := 96) (pc' := 107) rfl (hb hby at_96) rfl rfl rfl (XT.aa_eq_t rfl) (by decide) (by decide) ?_
        show Steps p.tables e below (T31.setTop (mkF m 107 #[.val (.int p0), .val (.int p1), .val (.int (1 : Int32)), .val (.int (0 : Int32)), .val (.ref aT), .val (.ref aF), .val (.ref aT), .val (.int (1 : Int32)), .unset, .unset] [])) _
        refine XS.aload X31.here hx rfl (hb hby at_107) rfl rfl ?_
        show Steps p.tables e below (T31.setTop (mkF m 109 #[.val (.int p0), .val (.int p1), .val (.int (1 : Int32)), .val (.int (0 : Int32)), .val (.ref aT), .val (.ref aF), .val (.ref aT), .val (.int (1 : Int32)), .unset, .unset] [(.ref aF)])) _
        refine st32 _ ?_
        show Steps p.tables e below (T32.setTop (mkF m 112 #[.val (.int p0), .val (.int p1), .val (.int (1 : Int32)), .val (.int (0 : Int32)), .val (.ref aT), .val (.ref aF), .val (.ref aT), .val (.int (1 : Int32)), .unset, .unset] [(.ref aT), (.ref aF)])) _
        refine XT.acmpNo X32.here hx rfl (hb hby at_112) rfl rfl rfl (XT.aa_eq_f (fun q => hne (Value.ref.inj q))) ?_
        show Steps p.tables e below (T32.setTop (mkF m 115 #[.val (.int p0), .val (.int p1), .val (.int (1 : Int32)), .val (.int (0 : Int32)), .val (.ref aT), .val (.ref aF), .val (.ref aT), .val (.int (1 : Int32)), .unset, .unset] [])) _
        refine XS.aload X32.here hx rfl (hb hby at_115) rfl rfl ?_
        show Steps p.tables e below (T32.setTop (mkF m 117 #[.val (.int p0), .val (.int p1), .val (.int (1 : Int32)), .val (.int (0 : Int32)), .val (.ref aT), .val (.ref aF), .val (.ref aT), .val (.int (1 : Int32)), .unset, .unset] [(.ref aF)])) _
        refine st33 _ ?_
        show Steps p.tables e below (T33.setTop (mkF m 120 #[.val (.int p0), .val (.int p1), .val (.int (1 : Int32)), .val (.int (0 : Int32)), .val (.ref aT), .val (.ref aF), .val (.ref aT), .val (.int (1 : Int32)), .unset, .unset] [(.ref aF), (.ref aF)])) _
        refine XT.acmpNo X33.here hx rfl (hb hby at_120) rfl rfl rfl (XT.aa_ne_f rfl) ?_
        show Steps p.tables e below (T33.setTop (mkF m 123 #[.val (.int p0), .val (.int p1), .val (.int (1 : Int32)), .val (.int (0 : Int32)), .val (.ref aT), .val (.ref aF), .val (.ref aT), .val (.int (1 : Int32)), .unset, .unset] [])) _
        refine XT.iconstV X33.here hx rfl (1 : Int32) (hb hby at_123) (by decide) ?_
        show Steps p.tables e below (T33.setTop (mkF m 124 #[.val (.int p0), .val (.int p1), .val (.int (1 : Int32)), .val (.int (0 : Int32)), .val (.ref aT), .val (.ref aF), .val (.ref aT), .val (.int (1 : Int32)), .unset, .unset] [(.int (1 : Int32))])) _
        refine XS.goto X33.here hx rfl (pc0 := 124) (pc' := 128) rfl (hb hby at_124) (by decide) (by decide) ?_
        show Steps p.tables e below (T33.setTop (mkF m 128 #[.val (.int p0), .val (.int p1), .val (.int (1 : Int32)), .val (.int (0 : Int32)), .val (.ref aT), .val (.ref aF), .val (.ref aT), .val (.int (1 : Int32)), .unset, .unset] [(.int (1 : Int32))])) _
        refine XS.istore X33.here hx rfl (hb hby at_128) rfl (l' := #[.val (.int p0), .val (.int p1), .val (.int (1 : Int32)), .val (.int (0 : Int32)), .val (.ref aT), .val (.ref aF), .val (.ref aT), .val (.int (1 : Int32)), .val (.int (1 : Int32)), .unset]) rfl ?_
        show Steps p.tables e below (T33.setTop (mkF m 130 #[.val (.int p0), .val (.int p1), .val (.int (1 : Int32)), .val (.int (0 : Int32)), .val (.ref aT), .val (.ref aF), .val (.ref aT), .val (.int (1 : Int32)), .val (.int (1 : Int32)), .unset] [])) _
        refine XS.aload X33.here hx rfl (hb hby at_130) rfl rfl ?_
        show Steps p.tables e below (T33.setTop (mkF m 132 #[.val (.int p0), .val (.int p1), .val (.int (1 : Int32)), .val (.int (0 : Int32)), .val (.ref aT), .val (.ref aF), .val (.ref aT), .val (.int (1 : Int32)), .val (.int (1 : Int32)), .unset] [(.ref aT)])) _
        refine XS.aload X33.here hx rfl (hb hby at_132) rfl rfl ?_
        show Steps p.tables e below (T33.setTop (mkF m 134 #[.val (.int p0), .val (.int p1), .val (.int (1 : Int32)), .val (.int (0 : Int32)), .val (.ref aT), .val (.ref aF), .val (.ref aT), .val (.int (1 : Int32)), .val (.int (1 : Int32)), .unset] [(.ref aF), (.ref aT)])) _
        refine XT.acmpYes X33.here hx rfl (pc0 := 134) (pc' := 141) rfl (hb hby at_134) rfl rfl rfl (XT.aa_ne_t (fun q => (Ne.symm hne) (Value.ref.inj q))) (by decide) (by decide) ?_
        show Steps p.tables e below (T33.setTop (mkF m 141 #[.val (.int p0), .val (.int p1), .val (.int (1 : Int32)), .val (.int (0 : Int32)), .val (.ref aT), .val (.ref aF), .val (.ref aT), .val (.int (1 : Int32)), .val (.int (1 : Int32)), .unset] [])) _
        refine XT.iconstV X33.here hx rfl (0 : Int32) (hb hby at_141) (by decide) ?_
        show Steps p.tables e below (T33.setTop (mkF m 142 #[.val (.int p0), .val (.int p1), .val (.int (1 : Int32)), .val (.int (0 : Int32)), .val (.ref aT), .val (.ref aF), .val (.ref aT), .val (.int (1 : Int32)), .val (.int (1 : Int32)), .unset] [(.int (0 : Int32))])) _
        refine XS.iloadN X33.here hx rfl (hb hby at_142) rfl ?_
        show Steps p.tables e below (T33.setTop (mkF m 143 #[.val (.int p0), .val (.int p1), .val (.int (1 : Int32)), .val (.int (0 : Int32)), .val (.ref aT), .val (.ref aF), .val (.ref aT), .val (.int (1 : Int32)), .val (.int (1 : Int32)), .unset] [(.int (1 : Int32)), (.int (0 : Int32))])) _
        refine XS.iloadN X33.here hx rfl (hb hby at_143) rfl ?_
        show Steps p.tables e below (T33.setTop (mkF m 144 #[.val (.int p0), .val (.int p1), .val (.int (1 : Int32)), .val (.int (0 : Int32)), .val (.ref aT), .val (.ref aF), .val (.ref aT), .val (.int (1 : Int32)), .val (.int (1 : Int32)), .unset] [(.int (0 : Int32)), (.int (1 : Int32)), (.int (0 : Int32))])) _
        refine XS.icmpYes X33.here hx rfl (pc0 := 144) (pc' := 151) rfl (hb hby at_144) rfl (XT.ii_ne_t (by decide)) (by decide) (by decide) ?_
        show Steps p.tables e below (T33.setTop (mkF m 151 #[.val (.int p0), .val (.int p1), .val (.int (1 : Int32)), .val (.int (0 : Int32)), .val (.ref aT), .val (.ref aF), .val (.ref aT), .val (.int (1 : Int32)), .val (.int (1 : Int32)), .unset] [(.int (0 : Int32))])) _
        refine XT.iconstV X33.here hx rfl (0 : Int32) (hb hby at_151) (by decide) ?_
        show Steps p.tables e below (T33.setTop (mkF m 152 #[.val (.int p0), .val (.int p1), .val (.int (1 : Int32)), .val (.int (0 : Int32)), .val (.ref aT), .val (.ref aF), .val (.ref aT), .val (.int (1 : Int32)), .val (.int (1 : Int32)), .unset] [(.int (0 : Int32)), (.int (0 : Int32))])) _
        refine XS.icmpNo X33.here hx rfl (hb hby at_152) rfl (XT.ii_ne_f (by decide)) ?_
        show Steps p.tables e below (T33.setTop (mkF m 155 #[.val (.int p0), .val (.int p1), .val (.int (1 : Int32)), .val (.int (0 : Int32)), .val (.ref aT), .val (.ref aF), .val (.ref aT), .val (.int (1 : Int32)), .val (.int (1 : Int32)), .unset] [])) _
        refine XT.iconstV X33.here hx rfl (1 : Int32) (hb hby at_155) (by decide) ?_
        show Steps p.tables e below (T33.setTop (mkF m 156 #[.val (.int p0), .val (.int p1), .val (.int (1 : Int32)), .val (.int (0 : Int32)), .val (.ref aT), .val (.ref aF), .val (.ref aT), .val (.int (1 : Int32)), .val (.int (1 : Int32)), .unset] [(.int (1 : Int32))])) _
        refine XS.goto X33.here hx rfl (pc0 := 156) (pc' := 160) rfl (hb hby at_156) (by decide) (by decide) ?_
        show Steps p.tables e below (T33.setTop (mkF m 160 #[.val (.int p0), .val (.int p1), .val (.int (1 : Int32)), .val (.int (0 : Int32)), .val (.ref aT), .val (.ref aF), .val (.ref aT), .val (.int (1 : Int32)), .val (.int (1 : Int32)), .unset] [(.int (1 : Int32))])) _
        refine XS.istore X33.here hx rfl (hb hby at_160) rfl (l' := #[.val (.int p0), .val (.int p1), .val (.int (1 : Int32)), .val (.int (0 : Int32)), .val (.ref aT), .val (.ref aF), .val (.ref aT), .val (.int (1 : Int32)), .val (.int (1 : Int32)), .val (.int (1 : Int32))]) rfl ?_
        show Steps p.tables e below (T33.setTop (mkF m 162 #[.val (.int p0), .val (.int p1), .val (.int (1 : Int32)), .val (.int (0 : Int32)), .val (.ref aT), .val (.ref aF), .val (.ref aT), .val (.int (1 : Int32)), .val (.int (1 : Int32)), .val (.int (1 : Int32))] [])) _
        refine XS.iload X33.here hx rfl (hb hby at_162) rfl ?_
        show Steps p.tables e below (T33.setTop (mkF m 164 #[.val (.int p0), .val (.int p1), .val (.int (1 : Int32)), .val (.int (0 : Int32)), .val (.ref aT), .val (.ref aF), .val (.ref aT), .val (.int (1 : Int32)), .val (.int (1 : Int32)), .val (.int (1 : Int32))] [(.int (1 : Int32))])) _
        refine XS.ifNo X33.here hx rfl (hb hby at_164) rfl (XT.i0_eq_f (by decide)) ?_
        show Steps p.tables e below (T33.setTop (mkF m 167 #[.val (.int p0), .val (.int p1), .val (.int (1 : Int32)), .val (.int (0 : Int32)), .val (.ref aT), .val (.ref aF), .val (.ref aT), .val (.int (1 : Int32)), .val (.int (1 : Int32)), .val (.int (1 : Int32))] [])) _
        refine XS.iload X33.here hx rfl (hb hby at_167) rfl ?_
        show Steps p.tables e below (T33.setTop (mkF m 169 #[.val (.int p0), .val (.int p1), .val (.int (1 : Int32)), .val (.int (0 : Int32)), .val (.ref aT), .val (.ref aF), .val (.ref aT), .val (.int (1 : Int32)), .val (.int (1 : Int32)), .val (.int (1 : Int32))] [(.int (1 : Int32))])) _
        refine XS.ifNo X33.here hx rfl (hb hby at_169) rfl (XT.i0_eq_f (by decide)) ?_
        show Steps p.tables e below (T33.setTop (mkF m 172 #[.val (.int p0), .val (.int p1), .val (.int (1 : Int32)), .val (.int (0 : Int32)), .val (.ref aT), .val (.ref aF), .val (.ref aT), .val (.int (1 : Int32)), .val (.int (1 : Int32)), .val (.int (1 : Int32))] [])) _
        refine XS.iload X33.here hx rfl (hb hby at_172) rfl ?_
        show Steps p.tables e below (T33.setTop (mkF m 174 #[.val (.int p0), .val (.int p1), .val (.int (1 : Int32)), .val (.int (0 : Int32)), .val (.ref aT), .val (.ref aF), .val (.ref aT), .val (.int (1 : Int32)), .val (.int (1 : Int32)), .val (.int (1 : Int32))] [(.int (1 : Int32))])) _
        refine XS.ifNo X33.here hx rfl (hb hby at_174) rfl (XT.i0_eq_f (by decide)) ?_
        show Steps p.tables e below (T33.setTop (mkF m 177 #[.val (.int p0), .val (.int p1), .val (.int (1 : Int32)), .val (.int (0 : Int32)), .val (.ref aT), .val (.ref aF), .val (.ref aT), .val (.int (1 : Int32)), .val (.int (1 : Int32)), .val (.int (1 : Int32))] [])) _
        refine XT.iconstV X33.here hx rfl (1 : Int32) (hb hby at_177) (by decide) ?_
        show Steps p.tables e below (T33.setTop (mkF m 178 #[.val (.int p0), .val (.int p1), .val (.int (1 : Int32)), .val (.int (0 : Int32)), .val (.ref aT), .val (.ref aF), .val (.ref aT), .val (.int (1 : Int32)), .val (.int (1 : Int32)), .val (.int (1 : Int32))] [(.int (1 : Int32))])) _
        refine XS.goto X33.here hx rfl (pc0 := 178) (pc' := 182) rfl (hb hby at_178) (by decide) (by decide) ?_
        show Steps p.tables e below (T33.setTop (mkF m 182 #[.val (.int p0), .val (.int p1), .val (.int (1 : Int32)), .val (.int (0 : Int32)), .val (.ref aT), .val (.ref aF), .val (.ref aT), .val (.int (1 : Int32)), .val (.int (1 : Int32)), .val (.int (1 : Int32))] [(.int (1 : Int32))])) _
        exact k)
      obtain ⟨fs, hr, hrun, hended, hW, hsame⟩ := X33.leave (v := some (.int (1 : Int32))) (fun h => by rw [Bd.returns] at h; cases h)
      refine ⟨_, _, pre0 _ (S34 _ ?_), hrun, hended, _, _, rfl, ?_, ⟨_, rfl⟩, hW, hsame.mono (by decide) (by decide)⟩
      · exact retN X33 hx (t := .boolean) Bd.returns (by simp) (hb hby at_182) hr
      · show Qrm0 Z p0 p1 aT aF h0 n0 _ T33.heap _
        rw [e33]
        exact ⟨rfl, N30⟩
    · obtain ⟨_, _, ⟨T35, L35, k35, n35⟩, -, X35, ⟨Lc35, hQ35, l35, y35, z35⟩, st35⟩ := Jvm.LawKit.callS X0 hx (y := (⟨"com/example/bare_refinement/barerefinement/exploration/BooleanValue", "of", "(Z)Lcom/example/bare_refinement/barerefinement/exploration/BooleanValue;"⟩ : MethodName)) hown (mvT hZ (hw _ (List.mem_of_getElem? (i := 0) rfl))) (mvT hZ (hw _ (List.mem_of_getElem? (i := 1) rfl))) (mvT hZ (hw _ (List.mem_of_getElem? (i := 2) rfl))) (mvT hZ (hw _ (List.mem_of_getElem? (i := 3) rfl))) (by decide) (backOf (W := 0) (rmOf1 l Z av0 hw [] aT h0 n0 Z0 hSaT) hZ (hw _ (List.mem_of_getElem? (i := 3) rfl)) (hw _ (List.mem_of_getElem? (i := 2) rfl)) (by decide) (by decide)) (g := (mkF m 25 #[.val (.int p0), .val (.int p1), .val (.int (1 : Int32)), .val (.int (1 : Int32)), .unset, .unset, .unset, .unset, .unset, .unset] [(.int (1 : Int32))])) rfl (by rw [hml]; rfl) (argsL := [(.int (1 : Int32))]) (rest := []) (lenOf pd__Z_Lcom_example_bare_refinement_barerefinement_exploration_BooleanValue_ rfl) rfl (by show 2 * 0 + _ ≤ _; exact Nat.le_of_eq rfl) (hb hby at_25) (fun _ _ => ⟨rfl, e0, (by decide : 0 + 0 ≤ _), (by decide : 0 + 0 ≤ _)⟩)
      dsimp only [Pt.U, Pt.locs, Pt.cells, Pt.slots] at X35 l35 y35 z35 st35 hQ35
      subst l35 y35 z35
      obtain ⟨rfl, N35q, hh35⟩ := hQ35
      have N35 := Fr.app N0 N35q
      have e35 : T35.heap = h0 := hh35
      obtain ⟨_, _, ⟨T36, L36, k36, n36⟩, -, X36, ⟨Lc36, hQ36, l36, y36, z36⟩, st36⟩ := Jvm.LawKit.callS X35 hx (y := (⟨"com/example/bare_refinement/barerefinement/exploration/BooleanValue", "of", "(Z)Lcom/example/bare_refinement/barerefinement/exploration/BooleanValue;"⟩ : MethodName)) hown (mvT hZ (hw _ (List.mem_of_getElem? (i := 0) rfl))) (mvT hZ (hw _ (List.mem_of_getElem? (i := 1) rfl))) (mvT hZ (hw _ (List.mem_of_getElem? (i := 2) rfl))) (mvT hZ (hw _ (List.mem_of_getElem? (i := 3) rfl))) (by decide) (backOf (W := 0) (rmOf1 l Z av0 hw [] aT h0 n0 Z0 hSaT) hZ (hw _ (List.mem_of_getElem? (i := 3) rfl)) (hw _ (List.mem_of_getElem? (i := 2) rfl)) (by decide) (by decide)) (g := (mkF m 31 #[.val (.int p0), .val (.int p1), .val (.int (1 : Int32)), .val (.int (1 : Int32)), .val (.ref aT), .unset, .unset, .unset, .unset, .unset] [(.int (1 : Int32))])) rfl (by rw [hml]; rfl) (argsL := [(.int (1 : Int32))]) (rest := []) (lenOf pd__Z_Lcom_example_bare_refinement_barerefinement_exploration_BooleanValue_ rfl) rfl (by show 2 * 0 + _ ≤ _; exact Nat.le_of_eq rfl) (hb hby at_31) (fun _ _ => ⟨rfl, e35, (by decide : 0 + 0 ≤ _), (by decide : 0 + 0 ≤ _)⟩)
      dsimp only [Pt.U, Pt.locs, Pt.cells, Pt.slots] at X36 l36 y36 z36 st36 hQ36
      subst l36 y36 z36
      obtain ⟨rfl, N36q, hh36⟩ := hQ36
      have N36 := Fr.app N35 N36q
      have e36 : T36.heap = h0 := hh36
      obtain ⟨_, _, ⟨T37, L37, k37, n37⟩, -, X37, ⟨Lc37, hQ37, l37, y37, z37⟩, st37⟩ := Jvm.LawKit.callS X36 hx (y := (⟨"com/example/bare_refinement/barerefinement/exploration/BooleanValue", "of", "(Z)Lcom/example/bare_refinement/barerefinement/exploration/BooleanValue;"⟩ : MethodName)) hown (mvT hZ (hw _ (List.mem_of_getElem? (i := 0) rfl))) (mvT hZ (hw _ (List.mem_of_getElem? (i := 1) rfl))) (mvT hZ (hw _ (List.mem_of_getElem? (i := 2) rfl))) (mvT hZ (hw _ (List.mem_of_getElem? (i := 3) rfl))) (by decide) (backOf (W := 0) (rmOf1 l Z av0 hw [] aT h0 n0 Z0 hSaT) hZ (hw _ (List.mem_of_getElem? (i := 3) rfl)) (hw _ (List.mem_of_getElem? (i := 2) rfl)) (by decide) (by decide)) (g := (mkF m 37 #[.val (.int p0), .val (.int p1), .val (.int (1 : Int32)), .val (.int (1 : Int32)), .val (.ref aT), .val (.ref aT), .unset, .unset, .unset, .unset] [(.int (1 : Int32))])) rfl (by rw [hml]; rfl) (argsL := [(.int (1 : Int32))]) (rest := []) (lenOf pd__Z_Lcom_example_bare_refinement_barerefinement_exploration_BooleanValue_ rfl) rfl (by show 2 * 0 + _ ≤ _; exact Nat.le_of_eq rfl) (hb hby at_37) (fun _ _ => ⟨rfl, e36, (by decide : 0 + 0 ≤ _), (by decide : 0 + 0 ≤ _)⟩)
      dsimp only [Pt.U, Pt.locs, Pt.cells, Pt.slots] at X37 l37 y37 z37 st37 hQ37
      subst l37 y37 z37
      obtain ⟨rfl, N37q, hh37⟩ := hQ37
      have N37 := Fr.app N36 N37q
      have e37 : T37.heap = h0 := hh37
      obtain ⟨cq38, kq38, q38a, q38b, q38c⟩ := isOf hZ e37 hEaT
      obtain ⟨_, _, ⟨T38, L38, k38, n38⟩, -, X38, ⟨Lc38, hQ38, l38, y38, z38⟩, st38⟩ := X37.virtualBack hx (y := (⟨"com/example/bare_refinement/barerefinement/exploration/BooleanValue", "get", "()Z"⟩ : MethodName)) (z := (⟨"com/example/bare_refinement/barerefinement/exploration/BooleanValue", "get", "()Z"⟩ : MethodName)) hown (mvT hZ (hw _ (List.mem_of_getElem? (i := 8) rfl))) (mvT hZ (hw _ (List.mem_of_getElem? (i := 9) rfl))) (notFace_of_selects (args := #[]) (mvT hZ (hw _ (List.mem_of_getElem? (i := 11) rfl)))) (mvT hZ (hw _ (List.mem_of_getElem? (i := 11) rfl))) (mvT hZ (hw _ (List.mem_of_getElem? (i := 10) rfl))) (by decide) (backOf (W := 0) (rmGet1 l Z av0 hw [] aT h0 n0 Z0 hVaT) hZ (hw _ (List.mem_of_getElem? (i := 12) rfl)) (hw _ (List.mem_of_getElem? (i := 2) rfl)) (by decide) (by decide)) q38a q38c (g := (mkF m 61 #[.val (.int p0), .val (.int p1), .val (.int (1 : Int32)), .val (.int (1 : Int32)), .val (.ref aT), .val (.ref aT), .val (.ref aT), .unset, .unset, .unset] [(.ref aT)])) rfl (by rw [hml]; rfl) (Steps.refl _) (argsL := []) (rest := []) (lenOf pd__Z rfl) rfl (by show 2 * 0 + _ ≤ _; exact Nat.le_of_eq rfl) (hb hby at_61) (fun _ _ => ⟨rfl, e37, (by decide : 0 + 0 ≤ _), (by decide : 0 + 0 ≤ _)⟩)
      dsimp only [Pt.U, Pt.locs, Pt.cells, Pt.slots] at X38 l38 y38 z38 st38 hQ38
      subst l38 y38 z38
      obtain ⟨rfl, N38q, hh38⟩ := hQ38
      have N38 := Fr.app N37 N38q
      have e38 : T38.heap = h0 := hh38
      obtain ⟨cq39, kq39, q39a, q39b, q39c⟩ := isOf hZ e38 hEaT
      obtain ⟨_, _, ⟨T39, L39, k39, n39⟩, -, X39, ⟨Lc39, hQ39, l39, y39, z39⟩, st39⟩ := X38.virtualBack hx (y := (⟨"com/example/bare_refinement/barerefinement/exploration/BooleanValue", "get", "()Z"⟩ : MethodName)) (z := (⟨"com/example/bare_refinement/barerefinement/exploration/BooleanValue", "get", "()Z"⟩ : MethodName)) hown (mvT hZ (hw _ (List.mem_of_getElem? (i := 8) rfl))) (mvT hZ (hw _ (List.mem_of_getElem? (i := 9) rfl))) (notFace_of_selects (args := #[]) (mvT hZ (hw _ (List.mem_of_getElem? (i := 11) rfl)))) (mvT hZ (hw _ (List.mem_of_getElem? (i := 11) rfl))) (mvT hZ (hw _ (List.mem_of_getElem? (i := 10) rfl))) (by decide) (backOf (W := 0) (rmGet1 l Z av0 hw [] aT h0 n0 Z0 hVaT) hZ (hw _ (List.mem_of_getElem? (i := 12) rfl)) (hw _ (List.mem_of_getElem? (i := 2) rfl)) (by decide) (by decide)) q39a q39c (g := (mkF m 70 #[.val (.int p0), .val (.int p1), .val (.int (1 : Int32)), .val (.int (1 : Int32)), .val (.ref aT), .val (.ref aT), .val (.ref aT), .unset, .unset, .unset] [(.ref aT)])) rfl (by rw [hml]; rfl) (Steps.refl _) (argsL := []) (rest := []) (lenOf pd__Z rfl) rfl (by show 2 * 0 + _ ≤ _; exact Nat.le_of_eq rfl) (hb hby at_70) (fun _ _ => ⟨rfl, e38, (by decide : 0 + 0 ≤ _), (by decide : 0 + 0 ≤ _)⟩)
      dsimp only [Pt.U, Pt.locs, Pt.cells, Pt.slots] at X39 l39 y39 z39 st39 hQ39
      subst l39 y39 z39
      obtain ⟨rfl, N39q, hh39⟩ := hQ39
      have N39 := Fr.app N38 N39q
      have e39 : T39.heap = h0 := hh39
      obtain ⟨T40, X40, e40, st40⟩ := getS2 X39 hx hZ hown (host := "") (Or.inl (hw _ (List.mem_of_getElem? (i := 15) rfl))) Via.refl e39 hSaT (g := (mkF m 93 #[.val (.int p0), .val (.int p1), .val (.int (1 : Int32)), .val (.int (1 : Int32)), .val (.ref aT), .val (.ref aT), .val (.ref aT), .val (.int (1 : Int32)), .unset, .unset] [(.ref aT)])) rfl (hb hby at_93)
      obtain ⟨T41, X41, e41, st41⟩ := getS2 X40 hx hZ hown (host := "") (Or.inl (hw _ (List.mem_of_getElem? (i := 15) rfl))) Via.refl e40 hSaT (g := (mkF m 109 #[.val (.int p0), .val (.int p1), .val (.int (1 : Int32)), .val (.int (1 : Int32)), .val (.ref aT), .val (.ref aT), .val (.ref aT), .val (.int (1 : Int32)), .unset, .unset] [(.ref aT)])) rfl (hb hby at_109)
      have S42 : ∀ t, Steps p.tables e below (T41.setTop (mkF m 182 #[.val (.int p0), .val (.int p1), .val (.int (1 : Int32)), .val (.int (1 : Int32)), .val (.ref aT), .val (.ref aT), .val (.ref aT), .val (.int (1 : Int32)), .val (.int (1 : Int32)), .val (.int (1 : Int32))] [(.int (1 : Int32))])) t → Steps p.tables e below (s₁.setTop (mkF m 0 #[.val (.int p0), .val (.int p1), .unset, .unset, .unset, .unset, .unset, .unset, .unset, .unset] [])) t := fun t k => S24 t (by
        show Steps p.tables e below (s₁.setTop (mkF m 15 #[.val (.int p0), .val (.int p1), .val (.int (1 : Int32)), .unset, .unset, .unset, .unset, .unset, .unset, .unset] [(.int (p1 &&& (1 : Int32)))])) _
        refine XS.ifNo X0.here hx rfl (hb hby at_15) rfl (XT.i0_eq_f hc15_25) ?_
        show Steps p.tables e below (s₁.setTop (mkF m 18 #[.val (.int p0), .val (.int p1), .val (.int (1 : Int32)), .unset, .unset, .unset, .unset, .unset, .unset, .unset] [])) _
        refine XT.iconstV X0.here hx rfl (1 : Int32) (hb hby at_18) (by decide) ?_
        show Steps p.tables e below (s₁.setTop (mkF m 19 #[.val (.int p0), .val (.int p1), .val (.int (1 : Int32)), .unset, .unset, .unset, .unset, .unset, .unset, .unset] [(.int (1 : Int32))])) _
        refine XS.goto X0.here hx rfl (pc0 := 19) (pc' := 23) rfl (hb hby at_19) (by decide) (by decide) ?_
        show Steps p.tables e below (s₁.setTop (mkF m 23 #[.val (.int p0), .val (.int p1), .val (.int (1 : Int32)), .unset, .unset, .unset, .unset, .unset, .unset, .unset] [(.int (1 : Int32))])) _
        refine XS.istoreN X0.here hx rfl (hb hby at_23) rfl (l' := #[.val (.int p0), .val (.int p1), .val (.int (1 : Int32)), .val (.int (1 : Int32)), .unset, .unset, .unset, .unset, .unset, .unset]) rfl ?_
        show Steps p.tables e below (s₁.setTop (mkF m 24 #[.val (.int p0), .val (.int p1), .val (.int (1 : Int32)), .val (.int (1 : Int32)), .unset, .unset, .unset, .unset, .unset, .unset] [])) _
        refine XS.iloadN X0.here hx rfl (hb hby at_24) rfl ?_
        show Steps p.tables e below (s₁.setTop (mkF m 25 #[.val (.int p0), .val (.int p1), .val (.int (1 : Int32)), .val (.int (1 : Int32)), .unset, .unset, .unset, .unset, .unset, .unset] [(.int (1 : Int32))])) _
        refine st35 _ ?_
        show Steps p.tables e below (T35.setTop (mkF m 28 #[.val (.int p0), .val (.int p1), .val (.int (1 : Int32)), .val (.int (1 : Int32)), .unset, .unset, .unset, .unset, .unset, .unset] [(.ref aT)])) _
        refine XS.astore X35.here hx rfl (hb hby at_28) rfl rfl (l' := #[.val (.int p0), .val (.int p1), .val (.int (1 : Int32)), .val (.int (1 : Int32)), .val (.ref aT), .unset, .unset, .unset, .unset, .unset]) rfl ?_
        show Steps p.tables e below (T35.setTop (mkF m 30 #[.val (.int p0), .val (.int p1), .val (.int (1 : Int32)), .val (.int (1 : Int32)), .val (.ref aT), .unset, .unset, .unset, .unset, .unset] [])) _
        refine XS.iloadN X35.here hx rfl (hb hby at_30) rfl ?_
        show Steps p.tables e below (T35.setTop (mkF m 31 #[.val (.int p0), .val (.int p1), .val (.int (1 : Int32)), .val (.int (1 : Int32)), .val (.ref aT), .unset, .unset, .unset, .unset, .unset] [(.int (1 : Int32))])) _
        refine st36 _ ?_
        show Steps p.tables e below (T36.setTop (mkF m 34 #[.val (.int p0), .val (.int p1), .val (.int (1 : Int32)), .val (.int (1 : Int32)), .val (.ref aT), .unset, .unset, .unset, .unset, .unset] [(.ref aT)])) _
        refine XS.astore X36.here hx rfl (hb hby at_34) rfl rfl (l' := #[.val (.int p0), .val (.int p1), .val (.int (1 : Int32)), .val (.int (1 : Int32)), .val (.ref aT), .val (.ref aT), .unset, .unset, .unset, .unset]) rfl ?_
        show Steps p.tables e below (T36.setTop (mkF m 36 #[.val (.int p0), .val (.int p1), .val (.int (1 : Int32)), .val (.int (1 : Int32)), .val (.ref aT), .val (.ref aT), .unset, .unset, .unset, .unset] [])) _
        refine XS.iloadN X36.here hx rfl (hb hby at_36) rfl ?_
        show Steps p.tables e below (T36.setTop (mkF m 37 #[.val (.int p0), .val (.int p1), .val (.int (1 : Int32)), .val (.int (1 : Int32)), .val (.ref aT), .val (.ref aT), .unset, .unset, .unset, .unset] [(.int (1 : Int32))])) _
        refine st37 _ ?_
        show Steps p.tables e below (T37.setTop (mkF m 40 #[.val (.int p0), .val (.int p1), .val (.int (1 : Int32)), .val (.int (1 : Int32)), .val (.ref aT), .val (.ref aT), .unset, .unset, .unset, .unset] [(.ref aT)])) _
        refine XS.astore X37.here hx rfl (hb hby at_40) rfl rfl (l' := #[.val (.int p0), .val (.int p1), .val (.int (1 : Int32)), .val (.int (1 : Int32)), .val (.ref aT), .val (.ref aT), .val (.ref aT), .unset, .unset, .unset]) rfl ?_
        show Steps p.tables e below (T37.setTop (mkF m 42 #[.val (.int p0), .val (.int p1), .val (.int (1 : Int32)), .val (.int (1 : Int32)), .val (.ref aT), .val (.ref aT), .val (.ref aT), .unset, .unset, .unset] [])) _
        refine XS.aload X37.here hx rfl (hb hby at_42) rfl rfl ?_
        show Steps p.tables e below (T37.setTop (mkF m 44 #[.val (.int p0), .val (.int p1), .val (.int (1 : Int32)), .val (.int (1 : Int32)), .val (.ref aT), .val (.ref aT), .val (.ref aT), .unset, .unset, .unset] [(.ref aT)])) _
        refine XS.ifnullNo X37.here hx rfl (hb hby at_44) rfl ?_
        show Steps p.tables e below (T37.setTop (mkF m 47 #[.val (.int p0), .val (.int p1), .val (.int (1 : Int32)), .val (.int (1 : Int32)), .val (.ref aT), .val (.ref aT), .val (.ref aT), .unset, .unset, .unset] [])) _
        refine XS.aload X37.here hx rfl (hb hby at_47) rfl rfl ?_
        show Steps p.tables e below (T37.setTop (mkF m 49 #[.val (.int p0), .val (.int p1), .val (.int (1 : Int32)), .val (.int (1 : Int32)), .val (.ref aT), .val (.ref aT), .val (.ref aT), .unset, .unset, .unset] [(.ref aT)])) _
        refine XS.ifnullNo X37.here hx rfl (hb hby at_49) rfl ?_
        show Steps p.tables e below (T37.setTop (mkF m 52 #[.val (.int p0), .val (.int p1), .val (.int (1 : Int32)), .val (.int (1 : Int32)), .val (.ref aT), .val (.ref aT), .val (.ref aT), .unset, .unset, .unset] [])) _
        refine XS.aload X37.here hx rfl (hb hby at_52) rfl rfl ?_
        show Steps p.tables e below (T37.setTop (mkF m 54 #[.val (.int p0), .val (.int p1), .val (.int (1 : Int32)), .val (.int (1 : Int32)), .val (.ref aT), .val (.ref aT), .val (.ref aT), .unset, .unset, .unset] [(.ref aT)])) _
        refine XT.ifnonnullYes X37.here hx rfl (pc0 := 54) (pc' := 59) rfl (hb hby at_54) rfl (by decide) (by decide) ?_
        show Steps p.tables e below (T37.setTop (mkF m 59 #[.val (.int p0), .val (.int p1), .val (.int (1 : Int32)), .val (.int (1 : Int32)), .val (.ref aT), .val (.ref aT), .val (.ref aT), .unset, .unset, .unset] [])) _
        refine XS.aload X37.here hx rfl (hb hby at_59) rfl rfl ?_
        show Steps p.tables e below (T37.setTop (mkF m 61 #[.val (.int p0), .val (.int p1), .val (.int (1 : Int32)), .val (.int (1 : Int32)), .val (.ref aT), .val (.ref aT), .val (.ref aT), .unset, .unset, .unset] [(.ref aT)])) _
        refine st38.trans ?_
        show Steps p.tables e below (T38.setTop (mkF m 64 #[.val (.int p0), .val (.int p1), .val (.int (1 : Int32)), .val (.int (1 : Int32)), .val (.ref aT), .val (.ref aT), .val (.ref aT), .unset, .unset, .unset] [(.int (1 : Int32))])) _
        refine XS.iloadN X38.here hx rfl (hb hby at_64) rfl ?_
        show Steps p.tables e below (T38.setTop (mkF m 65 #[.val (.int p0), .val (.int p1), .val (.int (1 : Int32)), .val (.int (1 : Int32)), .val (.ref aT), .val (.ref aT), .val (.ref aT), .unset, .unset, .unset] [(.int (1 : Int32)), (.int (1 : Int32))])) _
        refine XS.icmpNo X38.here hx rfl (hb hby at_65) rfl (XT.ii_ne_f (by decide)) ?_
        show Steps p.tables e below (T38.setTop (mkF m 68 #[.val (.int p0), .val (.int p1), .val (.int (1 : Int32)), .val (.int (1 : Int32)), .val (.ref aT), .val (.ref aT), .val (.ref aT), .unset, .unset, .unset] [])) _
        refine XS.aload X38.here hx rfl (hb hby at_68) rfl rfl ?_
        show Steps p.tables e below (T38.setTop (mkF m 70 #[.val (.int p0), .val (.int p1), .val (.int (1 : Int32)), .val (.int (1 : Int32)), .val (.ref aT), .val (.ref aT), .val (.ref aT), .unset, .unset, .unset] [(.ref aT)])) _
        refine st39.trans ?_
        show Steps p.tables e below (T39.setTop (mkF m 73 #[.val (.int p0), .val (.int p1), .val (.int (1 : Int32)), .val (.int (1 : Int32)), .val (.ref aT), .val (.ref aT), .val (.ref aT), .unset, .unset, .unset] [(.int (1 : Int32))])) _
        refine XS.iloadN X39.here hx rfl (hb hby at_73) rfl ?_
        show Steps p.tables e below (T39.setTop (mkF m 74 #[.val (.int p0), .val (.int p1), .val (.int (1 : Int32)), .val (.int (1 : Int32)), .val (.ref aT), .val (.ref aT), .val (.ref aT), .unset, .unset, .unset] [(.int (1 : Int32)), (.int (1 : Int32))])) _
        refine XS.icmpNo X39.here hx rfl (hb hby at_74) rfl (XT.ii_ne_f (by decide)) ?_
        show Steps p.tables e below (T39.setTop (mkF m 77 #[.val (.int p0), .val (.int p1), .val (.int (1 : Int32)), .val (.int (1 : Int32)), .val (.ref aT), .val (.ref aT), .val (.ref aT), .unset, .unset, .unset] [])) _
        refine XT.iconstV X39.here hx rfl (1 : Int32) (hb hby at_77) (by decide) ?_
        show Steps p.tables e below (T39.setTop (mkF m 78 #[.val (.int p0), .val (.int p1), .val (.int (1 : Int32)), .val (.int (1 : Int32)), .val (.ref aT), .val (.ref aT), .val (.ref aT), .unset, .unset, .unset] [(.int (1 : Int32))])) _
        refine XS.goto X39.here hx rfl (pc0 := 78) (pc' := 82) rfl (hb hby at_78) (by decide) (by decide) ?_
        show Steps p.tables e below (T39.setTop (mkF m 82 #[.val (.int p0), .val (.int p1), .val (.int (1 : Int32)), .val (.int (1 : Int32)), .val (.ref aT), .val (.ref aT), .val (.ref aT), .unset, .unset, .unset] [(.int (1 : Int32))])) _
        refine XS.istore X39.here hx rfl (hb hby at_82) rfl (l' := #[.val (.int p0), .val (.int p1), .val (.int (1 : Int32)), .val (.int (1 : Int32)), .val (.ref aT), .val (.ref aT), .val (.ref aT), .val (.int (1 : Int32)), .unset, .unset]) rfl ?_
        show Steps p.tables e below (T39.setTop (mkF m 84 #[.val (.int p0), .val (.int p1), .val (.int (1 : Int32)), .val (.int (1 : Int32)), .val (.ref aT), .val (.ref aT), .val (.ref aT), .val (.int (1 : Int32)), .unset, .unset] [])) _
        refine XS.aload X39.here hx rfl (hb hby at_84) rfl rfl ?_
        show Steps p.tables e below (T39.setTop (mkF m 86 #[.val (.int p0), .val (.int p1), .val (.int (1 : Int32)), .val (.int (1 : Int32)), .val (.ref aT), .val (.ref aT), .val (.ref aT), .val (.int (1 : Int32)), .unset, .unset] [(.ref aT)])) _
        refine XS.aload X39.here hx rfl (hb hby at_86) rfl rfl ?_
        show Steps p.tables e below (T39.setTop (mkF m 88 #[.val (.int p0), .val (.int p1), .val (.int (1 : Int32)), .val (.int (1 : Int32)), .val (.ref aT), .val (.ref aT), .val (.ref aT), .val (.int (1 : Int32)), .unset, .unset] [(.ref aT), (.ref aT)])) _
        refine XT.acmpNo X39.here hx rfl (hb hby at_88) rfl rfl rfl (XT.aa_ne_f rfl) ?_
        show Steps p.tables e below (T39.setTop (mkF m 91 #[.val (.int p0), .val (.int p1), .val (.int (1 : Int32)), .val (.int (1 : Int32)), .val (.ref aT), .val (.ref aT), .val (.ref aT), .val (.int (1 : Int32)), .unset, .unset] [])) _
        refine XS.aload X39.here hx rfl (hb hby at_91) rfl rfl ?_
        show Steps p.tables e below (T39.setTop (mkF m 93 #[.val (.int p0), .val (.int p1), .val (.int (1 : Int32)), .val (.int (1 : Int32)), .val (.ref aT), .val (.ref aT), .val (.ref aT), .val (.int (1 : Int32)), .unset, .unset] [(.ref aT)])) _
        refine st40 _ ?_
        show Steps p.tables e below (T40.setTop (mkF m 96 #[.val (.int p0), .val (.int p1), .val (.int (1 : Int32)), .val (.int (1 : Int32)), .val (.ref aT), .val (.ref aT), .val (.ref aT), .val (.int (1 : Int32)), .unset, .unset] [(.ref aT), (.ref aT)])) _
        refine XT.acmpYes X40.here hx rfl (pc0 := 96) (pc' := 107) rfl (hb hby at_96) rfl rfl rfl (XT.aa_eq_t rfl) (by decide) (by decide) ?_
        show Steps p.tables e below (T40.setTop (mkF m 107 #[.val (.int p0), .val (.int p1), .val (.int (1 : Int32)), .val (.int (1 : Int32)), .val (.ref aT), .val (.ref aT), .val (.ref aT), .val (.int (1 : Int32)), .unset, .unset] [])) _
        refine XS.aload X40.here hx rfl (hb hby at_107) rfl rfl ?_
        show Steps p.tables e below (T40.setTop (mkF m 109 #[.val (.int p0), .val (.int p1), .val (.int (1 : Int32)), .val (.int (1 : Int32)), .val (.ref aT), .val (.ref aT), .val (.ref aT), .val (.int (1 : Int32)), .unset, .unset] [(.ref aT)])) _
        refine st41 _ ?_
        show Steps p.tables e below (T41.setTop (mkF m 112 #[.val (.int p0), .val (.int p1), .val (.int (1 : Int32)), .val (.int (1 : Int32)), .val (.ref aT), .val (.ref aT), .val (.ref aT), .val (.int (1 : Int32)), .unset, .unset] [(.ref aT), (.ref aT)])) _
        refine XT.acmpYes X41.here hx rfl (pc0 := 112) (pc' := 123) rfl (hb hby at_112) rfl rfl rfl (XT.aa_eq_t rfl) (by decide) (by decide) ?_
        show Steps p.tables e below (T41.setTop (mkF m 123 #[.val (.int p0), .val (.int p1), .val (.int (1 : Int32)), .val (.int (1 : Int32)), .val (.ref aT), .val (.ref aT), .val (.ref aT), .val (.int (1 : Int32)), .unset, .unset] [])) _
        refine XT.iconstV X41.here hx rfl (1 : Int32) (hb hby at_123) (by decide) ?_
        show Steps p.tables e below (T41.setTop (mkF m 124 #[.val (.int p0), .val (.int p1), .val (.int (1 : Int32)), .val (.int (1 : Int32)), .val (.ref aT), .val (.ref aT), .val (.ref aT), .val (.int (1 : Int32)), .unset, .unset] [(.int (1 : Int32))])) _
        refine XS.goto X41.here hx rfl (pc0 := 124) (pc' := 128) rfl (hb hby at_124) (by decide) (by decide) ?_
        show Steps p.tables e below (T41.setTop (mkF m 128 #[.val (.int p0), .val (.int p1), .val (.int (1 : Int32)), .val (.int (1 : Int32)), .val (.ref aT), .val (.ref aT), .val (.ref aT), .val (.int (1 : Int32)), .unset, .unset] [(.int (1 : Int32))])) _
        refine XS.istore X41.here hx rfl (hb hby at_128) rfl (l' := #[.val (.int p0), .val (.int p1), .val (.int (1 : Int32)), .val (.int (1 : Int32)), .val (.ref aT), .val (.ref aT), .val (.ref aT), .val (.int (1 : Int32)), .val (.int (1 : Int32)), .unset]) rfl ?_
        show Steps p.tables e below (T41.setTop (mkF m 130 #[.val (.int p0), .val (.int p1), .val (.int (1 : Int32)), .val (.int (1 : Int32)), .val (.ref aT), .val (.ref aT), .val (.ref aT), .val (.int (1 : Int32)), .val (.int (1 : Int32)), .unset] [])) _
        refine XS.aload X41.here hx rfl (hb hby at_130) rfl rfl ?_
        show Steps p.tables e below (T41.setTop (mkF m 132 #[.val (.int p0), .val (.int p1), .val (.int (1 : Int32)), .val (.int (1 : Int32)), .val (.ref aT), .val (.ref aT), .val (.ref aT), .val (.int (1 : Int32)), .val (.int (1 : Int32)), .unset] [(.ref aT)])) _
        refine XS.aload X41.here hx rfl (hb hby at_132) rfl rfl ?_
        show Steps p.tables e below (T41.setTop (mkF m 134 #[.val (.int p0), .val (.int p1), .val (.int (1 : Int32)), .val (.int (1 : Int32)), .val (.ref aT), .val (.ref aT), .val (.ref aT), .val (.int (1 : Int32)), .val (.int (1 : Int32)), .unset] [(.ref aT), (.ref aT)])) _
        refine XT.acmpNo X41.here hx rfl (hb hby at_134) rfl rfl rfl (XT.aa_ne_f rfl) ?_
        show Steps p.tables e below (T41.setTop (mkF m 137 #[.val (.int p0), .val (.int p1), .val (.int (1 : Int32)), .val (.int (1 : Int32)), .val (.ref aT), .val (.ref aT), .val (.ref aT), .val (.int (1 : Int32)), .val (.int (1 : Int32)), .unset] [])) _
        refine XT.iconstV X41.here hx rfl (1 : Int32) (hb hby at_137) (by decide) ?_
        show Steps p.tables e below (T41.setTop (mkF m 138 #[.val (.int p0), .val (.int p1), .val (.int (1 : Int32)), .val (.int (1 : Int32)), .val (.ref aT), .val (.ref aT), .val (.ref aT), .val (.int (1 : Int32)), .val (.int (1 : Int32)), .unset] [(.int (1 : Int32))])) _
        refine XS.goto X41.here hx rfl (pc0 := 138) (pc' := 142) rfl (hb hby at_138) (by decide) (by decide) ?_
        show Steps p.tables e below (T41.setTop (mkF m 142 #[.val (.int p0), .val (.int p1), .val (.int (1 : Int32)), .val (.int (1 : Int32)), .val (.ref aT), .val (.ref aT), .val (.ref aT), .val (.int (1 : Int32)), .val (.int (1 : Int32)), .unset] [(.int (1 : Int32))])) _
        refine XS.iloadN X41.here hx rfl (hb hby at_142) rfl ?_
        show Steps p.tables e below (T41.setTop (mkF m 143 #[.val (.int p0), .val (.int p1), .val (.int (1 : Int32)), .val (.int (1 : Int32)), .val (.ref aT), .val (.ref aT), .val (.ref aT), .val (.int (1 : Int32)), .val (.int (1 : Int32)), .unset] [(.int (1 : Int32)), (.int (1 : Int32))])) _
        refine XS.iloadN X41.here hx rfl (hb hby at_143) rfl ?_
        show Steps p.tables e below (T41.setTop (mkF m 144 #[.val (.int p0), .val (.int p1), .val (.int (1 : Int32)), .val (.int (1 : Int32)), .val (.ref aT), .val (.ref aT), .val (.ref aT), .val (.int (1 : Int32)), .val (.int (1 : Int32)), .unset] [(.int (1 : Int32)), (.int (1 : Int32)), (.int (1 : Int32))])) _
        refine XS.icmpNo X41.here hx rfl (hb hby at_144) rfl (XT.ii_ne_f (by decide)) ?_
        show Steps p.tables e below (T41.setTop (mkF m 147 #[.val (.int p0), .val (.int p1), .val (.int (1 : Int32)), .val (.int (1 : Int32)), .val (.ref aT), .val (.ref aT), .val (.ref aT), .val (.int (1 : Int32)), .val (.int (1 : Int32)), .unset] [(.int (1 : Int32))])) _
        refine XT.iconstV X41.here hx rfl (1 : Int32) (hb hby at_147) (by decide) ?_
        show Steps p.tables e below (T41.setTop (mkF m 148 #[.val (.int p0), .val (.int p1), .val (.int (1 : Int32)), .val (.int (1 : Int32)), .val (.ref aT), .val (.ref aT), .val (.ref aT), .val (.int (1 : Int32)), .val (.int (1 : Int32)), .unset] [(.int (1 : Int32)), (.int (1 : Int32))])) _
        refine XS.goto X41.here hx rfl (pc0 := 148) (pc' := 152) rfl (hb hby at_148) (by decide) (by decide) ?_
        show Steps p.tables e below (T41.setTop (mkF m 152 #[.val (.int p0), .val (.int p1), .val (.int (1 : Int32)), .val (.int (1 : Int32)), .val (.ref aT), .val (.ref aT), .val (.ref aT), .val (.int (1 : Int32)), .val (.int (1 : Int32)), .unset] [(.int (1 : Int32)), (.int (1 : Int32))])) _
        refine XS.icmpNo X41.here hx rfl (hb hby at_152) rfl (XT.ii_ne_f (by decide)) ?_
        show Steps p.tables e below (T41.setTop (mkF m 155 #[.val (.int p0), .val (.int p1), .val (.int (1 : Int32)), .val (.int (1 : Int32)), .val (.ref aT), .val (.ref aT), .val (.ref aT), .val (.int (1 : Int32)), .val (.int (1 : Int32)), .unset] [])) _
        refine XT.iconstV X41.here hx rfl (1 : Int32) (hb hby at_155) (by decide) ?_
        show Steps p.tables e below (T41.setTop (mkF m 156 #[.val (.int p0), .val (.int p1), .val (.int (1 : Int32)), .val (.int (1 : Int32)), .val (.ref aT), .val (.ref aT), .val (.ref aT), .val (.int (1 : Int32)), .val (.int (1 : Int32)), .unset] [(.int (1 : Int32))])) _
        refine XS.goto X41.here hx rfl (pc0 := 156) (pc' := 160) rfl (hb hby at_156) (by decide) (by decide) ?_
        show Steps p.tables e below (T41.setTop (mkF m 160 #[.val (.int p0), .val (.int p1), .val (.int (1 : Int32)), .val (.int (1 : Int32)), .val (.ref aT), .val (.ref aT), .val (.ref aT), .val (.int (1 : Int32)), .val (.int (1 : Int32)), .unset] [(.int (1 : Int32))])) _
        refine XS.istore X41.here hx rfl (hb hby at_160) rfl (l' := #[.val (.int p0), .val (.int p1), .val (.int (1 : Int32)), .val (.int (1 : Int32)), .val (.ref aT), .val (.ref aT), .val (.ref aT), .val (.int (1 : Int32)), .val (.int (1 : Int32)), .val (.int (1 : Int32))]) rfl ?_
        show Steps p.tables e below (T41.setTop (mkF m 162 #[.val (.int p0), .val (.int p1), .val (.int (1 : Int32)), .val (.int (1 : Int32)), .val (.ref aT), .val (.ref aT), .val (.ref aT), .val (.int (1 : Int32)), .val (.int (1 : Int32)), .val (.int (1 : Int32))] [])) _
        refine XS.iload X41.here hx rfl (hb hby at_162) rfl ?_
        show Steps p.tables e below (T41.setTop (mkF m 164 #[.val (.int p0), .val (.int p1), .val (.int (1 : Int32)), .val (.int (1 : Int32)), .val (.ref aT), .val (.ref aT), .val (.ref aT), .val (.int (1 : Int32)), .val (.int (1 : Int32)), .val (.int (1 : Int32))] [(.int (1 : Int32))])) _
        refine XS.ifNo X41.here hx rfl (hb hby at_164) rfl (XT.i0_eq_f (by decide)) ?_
        show Steps p.tables e below (T41.setTop (mkF m 167 #[.val (.int p0), .val (.int p1), .val (.int (1 : Int32)), .val (.int (1 : Int32)), .val (.ref aT), .val (.ref aT), .val (.ref aT), .val (.int (1 : Int32)), .val (.int (1 : Int32)), .val (.int (1 : Int32))] [])) _
        refine XS.iload X41.here hx rfl (hb hby at_167) rfl ?_
        show Steps p.tables e below (T41.setTop (mkF m 169 #[.val (.int p0), .val (.int p1), .val (.int (1 : Int32)), .val (.int (1 : Int32)), .val (.ref aT), .val (.ref aT), .val (.ref aT), .val (.int (1 : Int32)), .val (.int (1 : Int32)), .val (.int (1 : Int32))] [(.int (1 : Int32))])) _
        refine XS.ifNo X41.here hx rfl (hb hby at_169) rfl (XT.i0_eq_f (by decide)) ?_
        show Steps p.tables e below (T41.setTop (mkF m 172 #[.val (.int p0), .val (.int p1), .val (.int (1 : Int32)), .val (.int (1 : Int32)), .val (.ref aT), .val (.ref aT), .val (.ref aT), .val (.int (1 : Int32)), .val (.int (1 : Int32)), .val (.int (1 : Int32))] [])) _
        refine XS.iload X41.here hx rfl (hb hby at_172) rfl ?_
        show Steps p.tables e below (T41.setTop (mkF m 174 #[.val (.int p0), .val (.int p1), .val (.int (1 : Int32)), .val (.int (1 : Int32)), .val (.ref aT), .val (.ref aT), .val (.ref aT), .val (.int (1 : Int32)), .val (.int (1 : Int32)), .val (.int (1 : Int32))] [(.int (1 : Int32))])) _
        refine XS.ifNo X41.here hx rfl (hb hby at_174) rfl (XT.i0_eq_f (by decide)) ?_
        show Steps p.tables e below (T41.setTop (mkF m 177 #[.val (.int p0), .val (.int p1), .val (.int (1 : Int32)), .val (.int (1 : Int32)), .val (.ref aT), .val (.ref aT), .val (.ref aT), .val (.int (1 : Int32)), .val (.int (1 : Int32)), .val (.int (1 : Int32))] [])) _
        refine XT.iconstV X41.here hx rfl (1 : Int32) (hb hby at_177) (by decide) ?_
        show Steps p.tables e below (T41.setTop (mkF m 178 #[.val (.int p0), .val (.int p1), .val (.int (1 : Int32)), .val (.int (1 : Int32)), .val (.ref aT), .val (.ref aT), .val (.ref aT), .val (.int (1 : Int32)), .val (.int (1 : Int32)), .val (.int (1 : Int32))] [(.int (1 : Int32))])) _
        refine XS.goto X41.here hx rfl (pc0 := 178) (pc' := 182) rfl (hb hby at_178) (by decide) (by decide) ?_
        show Steps p.tables e below (T41.setTop (mkF m 182 #[.val (.int p0), .val (.int p1), .val (.int (1 : Int32)), .val (.int (1 : Int32)), .val (.ref aT), .val (.ref aT), .val (.ref aT), .val (.int (1 : Int32)), .val (.int (1 : Int32)), .val (.int (1 : Int32))] [(.int (1 : Int32))])) _
        exact k)
      obtain ⟨fs, hr, hrun, hended, hW, hsame⟩ := X41.leave (v := some (.int (1 : Int32))) (fun h => by rw [Bd.returns] at h; cases h)
      refine ⟨_, _, pre0 _ (S42 _ ?_), hrun, hended, _, _, rfl, ?_, ⟨_, rfl⟩, hW, hsame.mono (by decide) (by decide)⟩
      · exact retN X41 hx (t := .boolean) Bd.returns (by simp) (hb hby at_182) hr
      · show Qrm0 Z p0 p1 aT aF h0 n0 _ T41.heap _
        rw [e41]
        exact ⟨rfl, N39⟩
set_option maxRecDepth 65536 in
set_option maxHeartbeats 40000000 in
theorem comes_1 {Post : Tables → Env → Array Value → State → Outcome → State → Prop} (hpost : ∀ tb e args s v u, (limb_1_1.after args s (.returned v) u = true ∧ limb_1_2.after args s (.returned v) u = true ∧ True) → FrameEnd s (.returned v) u (Jvm.fieldLocs frame_1_writes args s ++ Jvm.arrayLocs frame_1_arrays args s ++ Jvm.staticLocs frame_1_statics s) 0 0 → Post tb e args s (.returned v) u) :
    ArmFor flags0 classFile x code maxLocals ret World_1 tables_1 room_1 Calls_1 rest_1 Pre_1 Post := by
  intro l hfl _ _ p e ha hc hk s m args below hf hA hF happ hP
  obtain ⟨hcalls, hrest, hpre⟩ := hP
  obtain ⟨-, -, -, hnamed, -, -, -, hat⟩ := (Spec.applies_iff hf).mp happ
  obtain ⟨hg, hn⟩ := and_e (Cond.before_iff.mp (show (Jvm.Cond.and given_1 narrow_1).before args s = true from hpre))
  obtain ⟨g0, r0⟩ := and_e hg
  obtain ⟨g1, r1⟩ := and_e r0
  obtain ⟨w0, w1, rfl⟩ : ∃ w0 w1 : Value, args = #[w0, w1] := by
    have hs : args.size = 2 := by simpa [Cond.value, given_1] using g0
    obtain ⟨L⟩ := args
    match L, hs with
    | [w0, w1], _ => exact ⟨w0, w1, rfl⟩
  have hw := fun d (hd : d ∈ tables_1) => atoms_spec (ws := Jvm.Cond.code x code maxLocals ret :: tables_1) hat d (List.mem_cons_of_mem _ hd)
  have hfit : Fit s := fun {y c} hc i hi => by
    obtain ⟨ha, rfl⟩ := Array.getElem?_eq_some_iff.mp hc
    have q := List.all_eq_true.mp ((Array.all_eq_true_iff_forall_mem.mp hF) _ (Array.getElem_mem ha)) i (List.mem_range.mpr hi)
    simpa [Array.getElem?_eq_getElem hi] using q
  obtain ⟨i0, ei0⟩ := is_v g1
  obtain rfl : w0 = (.int i0) := Option.some.inj ei0
  obtain ⟨i1, ei1⟩ := is_v r1
  obtain rfl : w1 = (.int i1) := Option.some.inj ei1
  obtain ⟨m0, t0⟩ := and_e hn
  obtain ⟨m1, t1⟩ := and_e t0
  obtain ⟨m2, t2⟩ := and_e t1
  obtain ⟨m3, t3⟩ := and_e t2
  obtain ⟨s_FALSE, ev_FALSE⟩ := exa_v m0
  have E_FALSE := Exa.start ev_FALSE m0
  have S_FALSE := Sta.start ev_FALSE (Or.inr ⟨(hw _ (List.mem_of_getElem? (i := 2) rfl)), (hw _ (List.mem_of_getElem? (i := 5) rfl))⟩)
  obtain ⟨s_TRUE, ev_TRUE⟩ := exa_v m1
  have E_TRUE := Exa.start ev_TRUE m1
  have S_TRUE := Sta.start ev_TRUE (Or.inr ⟨(hw _ (List.mem_of_getElem? (i := 2) rfl)), (hw _ (List.mem_of_getElem? (i := 7) rfl))⟩)
  have F_FALSE_value := Fld.start ((fld_at ev_FALSE).symm.trans (Cond.eq_int (Cond.before_iff.mpr m2) rfl))
  have F_TRUE_value := Fld.start ((fld_at ev_TRUE).symm.trans (Cond.eq_int (Cond.before_iff.mpr m3) rfl))
  have ne_FALSE_TRUE : s_FALSE ≠ s_TRUE := fun z => gotF (eq_R ev_FALSE ev_TRUE rfl rfl) (not_v t3) (congrArg Value.ref z)
  obtain ⟨n, o, h1, h2, h3, _, L, rfl, ⟨rfl, N⟩, hq⟩ := rm0 l s _ hw tables_1 i0 i1 s_TRUE s_FALSE s.heap s.heap.size (Nat.le_refl _) S_TRUE E_TRUE F_TRUE_value S_FALSE E_FALSE F_FALSE_value ne_FALSE_TRUE p e ha hc hk s m _ below hf ((Spec.applies_iff_loose hf).mp happ).1 ⟨rfl, State.Warmed39.refl s, rfl⟩ trivial
  refine ⟨n, _, h1, h2, h3, hpost _ _ _ _ _ _ ⟨Cond.after_iff.mpr rfl, Cond.after_iff.mpr (eq_i res_at (Term.int_eval (1)) rfl), trivial⟩ ⟨hq.1, hq.2.1, (hq.2.2.sift fun y hy => Or.inr (N y hy)).mono (by decide) (by decide)⟩⟩
theorem main_1_1 : Claimed_1_1 := comes_1 fun _ _ _ _ _ _ h hF => ⟨h.1, hF⟩
theorem main_1_2 : Claimed_1_2 := comes_1 fun _ _ _ _ _ _ h hF => ⟨h.2.1, hF⟩
end Jvm.Pilot.@@N@@
namespace Jvm.Pilot.@@N@@
open Jvm Jvm.ClassFile Sem Op Lib Jvm.Free Jvm.Stand Jvm.Pilot.@@N@@.Jvm.D
/-! MADE BY PROGRAM (witnessworld.py) out of the Statement's table words and the real class files: 11 classes; the members and pool entries that the words name. The judged class is class 1, her method 1. -/
namespace start1
open Jvm.ClassFile
def u (s : String) : CpInfo := .utf8 (stringToUtf16 s)
/-- a pool by its gaps: so many unusable entries, then the entry; so many at the end -/
def gap : Nat → List CpInfo → List CpInfo
  | 0, r => r
  | n + 1, r => .unusable :: gap n r
def poolList (es : List (Nat × CpInfo)) (last : Nat) : List CpInfo := es.foldr (fun e r => gap e.1 (e.2 :: r)) (gap last [])
def pool (es : List (Nat × CpInfo)) (last : Nat) : Array CpInfo := ⟨poolList es last⟩
def fileOf (pool : Array CpInfo) (this : Nat) (attrs : Array Attribute := #[]) (ms : Array MethodInfo := #[]) (fl : Nat := 33) (sup : Nat := 0) (ifs : Array Nat := #[]) (fds : Array FieldInfo := #[]) : ClassFile where
  minorVersion := 0
  majorVersion := 65
  constantPool := pool
  accessFlags := fl
  thisClass := this
  superClass := sup
  interfaces := ifs
  fields := fds
  methods := ms
  attributes := attrs
def plain (name : String) (sup : Option ClassId) : Class where
  name := name
  kind := .ordinary
  loader := none
  accessFlags := 33
  super := sup
  interfaces := #[]
  cf := none
  fields := #[]
  methods := #[]
  instanceTypes := #[]
  staticTypes := #[]
  resolved := #[]
  callSites := []
  init := .initialized
  statics := none
  mirror := none

def pool0 : Array CpInfo := pool [(5, u "<init>"), (0, u "()V"), (1, .class_ 10), (1, u "java/lang/Object")] 113

def k0m0 : Method := { name := "<init>", desc := "()V", sig := { parameters := [], returnType := none }, accessFlags := 1, code := none }
/-- java/lang/Object -/
def k0 : Class := { plain "java/lang/Object" none with
  accessFlags := 33
  interfaces := #[]
  cf := some (fileOf pool0 8 #[] #[{ accessFlags := 1, nameIndex := 5, descriptorIndex := 6, attributes := #[] }] 33 0 #[] #[])
  fields := #[]
  methods := #[k0m0]
  instanceTypes := #[]
  staticTypes := #[]
  resolved := Array.replicate 124 none
  statics := none }

def pool1 : Array CpInfo := pool [(2, .class_ 4), (1, u "java/lang/Object"), (0, u "<init>"), (0, u "()V"), (0, .methodref 8 9), (0, .class_ 10), (0, .nameAndType 11 12), (0, u "com/example/bare_refinement/barerefinement/exploration/BooleanValue"), (0, u "of"), (0, u "(Z)Lcom/example/bare_refinement/barerefinement/exploration/BooleanValue;"), (0, .methodref 8 14), (0, .nameAndType 15 16), (0, u "get"), (0, u "()Z"), (0, .fieldref 8 18), (0, .nameAndType 19 20), (0, u "TRUE"), (0, u "Lcom/example/bare_refinement/barerefinement/exploration/BooleanValue;"), (0, .fieldref 8 22), (0, .nameAndType 23 20), (0, u "FALSE"), (0, .class_ 25), (0, u "com/example/bare_refinement/barerefinement/exploration/BooleanValueOfPinLaw"), (2, u "law"), (0, u "(II)Z")] 3

def k1m0 : Method := { name := "<init>", desc := "()V", sig := { parameters := [], returnType := none }, accessFlags := 2, code := none }
def k1c1 : Code := { maxStack := 3, maxLocals := 10, code := code, exceptionTable := #[], attributes := #[] }
def k1m1 : Method := { name := "law", desc := "(II)Z", sig := { parameters := [.int, .int], returnType := some .boolean }, accessFlags := 9, code := some k1c1 }
/-- com/example/bare_refinement/barerefinement/exploration/BooleanValueOfPinLaw -/
def k1 : Class := { plain "com/example/bare_refinement/barerefinement/exploration/BooleanValueOfPinLaw" (some 0) with
  accessFlags := 49
  interfaces := #[]
  cf := some (fileOf pool1 24 #[] #[{ accessFlags := 2, nameIndex := 5, descriptorIndex := 6, attributes := #[] }, { accessFlags := 9, nameIndex := 28, descriptorIndex := 29, attributes := #[] }] 49 2 #[] #[])
  fields := #[]
  methods := #[k1m0, k1m1]
  instanceTypes := #[]
  staticTypes := #[]
  resolved := Array.replicate 33 none
  statics := none }

def pool2 : Array CpInfo := pool [(1, .class_ 2), (0, u "java/lang/Comparable"), (0, .class_ 4), (0, u "java/lang/Object")] 7

/-- java/lang/Comparable -/
def k2 : Class := { plain "java/lang/Comparable" (some 0) with
  accessFlags := 1537
  interfaces := #[]
  cf := some (fileOf pool2 1 #[] #[] 1537 3 #[] #[])
  fields := #[]
  methods := #[]
  instanceTypes := #[]
  staticTypes := #[]
  resolved := Array.replicate 12 none
  statics := none }

def pool3 : Array CpInfo := pool [(2, .class_ 4), (1, u "java/lang/Object"), (0, u "<init>"), (0, u "()V"), (1, .class_ 10), (1, u "com/example/bare_refinement/barerefinement/exploration/Value"), (19, .class_ 31), (0, u "java/lang/Comparable")] 12

def k3m0 : Method := { name := "<init>", desc := "()V", sig := { parameters := [], returnType := none }, accessFlags := 0, code := none }
/-- com/example/bare_refinement/barerefinement/exploration/Value -/
def k3 : Class := { plain "com/example/bare_refinement/barerefinement/exploration/Value" (some 0) with
  accessFlags := 1057
  interfaces := #[2]
  cf := some (fileOf pool3 8 #[] #[{ accessFlags := 0, nameIndex := 5, descriptorIndex := 6, attributes := #[] }] 1057 2 #[30] #[])
  fields := #[]
  methods := #[k3m0]
  instanceTypes := #[]
  staticTypes := #[]
  resolved := Array.replicate 44 none
  statics := none }

def pool4 : Array CpInfo := pool [(2, .class_ 4), (1, u "com/example/bare_refinement/barerefinement/exploration/Value"), (2, .fieldref 8 9), (0, .class_ 10), (0, .nameAndType 11 12), (0, u "com/example/bare_refinement/barerefinement/exploration/BooleanValue"), (0, u "value"), (0, u "Z"), (0, .fieldref 8 14), (0, .nameAndType 15 16), (0, u "TRUE"), (0, u "Lcom/example/bare_refinement/barerefinement/exploration/BooleanValue;"), (0, .fieldref 8 18), (0, .nameAndType 19 16), (0, u "FALSE"), (23, u "of"), (0, u "(Z)Lcom/example/bare_refinement/barerefinement/exploration/BooleanValue;"), (1, u "get"), (0, u "()Z")] 13

def k4c0 : Code := { maxStack := 1, maxLocals := 1, code := prog_12_method_2_code, exceptionTable := #[], attributes := #[] }
def k4m0 : Method := { name := "of", desc := "(Z)Lcom/example/bare_refinement/barerefinement/exploration/BooleanValue;", sig := { parameters := [.boolean], returnType := some (.object "com/example/bare_refinement/barerefinement/exploration/BooleanValue") }, accessFlags := 8, code := some k4c0 }
def k4c1 : Code := { maxStack := 1, maxLocals := 1, code := prog_12_method_3_code, exceptionTable := #[], attributes := #[] }
def k4m1 : Method := { name := "get", desc := "()Z", sig := { parameters := [], returnType := some .boolean }, accessFlags := 0, code := some k4c1 }
/-- com/example/bare_refinement/barerefinement/exploration/BooleanValue -/
def k4 : Class := { plain "com/example/bare_refinement/barerefinement/exploration/BooleanValue" (some 3) with
  accessFlags := 48
  interfaces := #[]
  cf := some (fileOf pool4 8 #[] #[{ accessFlags := 8, nameIndex := 43, descriptorIndex := 44, attributes := #[] }, { accessFlags := 0, nameIndex := 46, descriptorIndex := 47, attributes := #[] }] 48 2 #[] #[{ accessFlags := 24, nameIndex := 19, descriptorIndex := 16, attributes := #[] }, { accessFlags := 24, nameIndex := 15, descriptorIndex := 16, attributes := #[] }, { accessFlags := 18, nameIndex := 11, descriptorIndex := 12, attributes := #[] }])
  fields := #[{ name := "FALSE", type := (.object "com/example/bare_refinement/barerefinement/exploration/BooleanValue"), accessFlags := 24, slot := 0, constantValue := 0 }, { name := "TRUE", type := (.object "com/example/bare_refinement/barerefinement/exploration/BooleanValue"), accessFlags := 24, slot := 1, constantValue := 0 }, { name := "value", type := .boolean, accessFlags := 18, slot := 0, constantValue := 0 }]
  methods := #[k4m0, k4m1]
  instanceTypes := #[.boolean]
  staticTypes := #[(.object "com/example/bare_refinement/barerefinement/exploration/BooleanValue"), (.object "com/example/bare_refinement/barerefinement/exploration/BooleanValue")]
  resolved := Array.replicate 61 none
  statics := some 0 }

def pool5 : Array CpInfo := pool [(1, u "java/lang/Cloneable"), (0, .class_ 1), (0, u "java/lang/Object"), (0, .class_ 3)] 3

/-- java/lang/Cloneable -/
def k5 : Class := { plain "java/lang/Cloneable" (some 0) with
  accessFlags := 1537
  interfaces := #[]
  cf := some (fileOf pool5 2 #[] #[] 1537 4 #[] #[])
  fields := #[]
  methods := #[]
  instanceTypes := #[]
  staticTypes := #[]
  resolved := Array.replicate 8 none
  statics := none }

def pool6 : Array CpInfo := pool [(1, u "java/io/Serializable"), (0, .class_ 1), (0, u "java/lang/Object"), (0, .class_ 3)] 3

/-- java/io/Serializable -/
def k6 : Class := { plain "java/io/Serializable" (some 0) with
  accessFlags := 1537
  interfaces := #[]
  cf := some (fileOf pool6 2 #[] #[] 1537 4 #[] #[])
  fields := #[]
  methods := #[]
  instanceTypes := #[]
  staticTypes := #[]
  resolved := Array.replicate 8 none
  statics := none }

/-- the primitive byte -/
def k7 : Class := { plain "byte" none with kind := .primitive 'B', accessFlags := 0x411 }
/-- [B -/
def k8 : Class := { plain "[B" (some 0) with kind := .array 7 .byte, interfaces := #[5, 6], accessFlags := 1041 }

/-- the primitive int -/
def k9 : Class := { plain "int" none with kind := .primitive 'I', accessFlags := 0x411 }
/-- [I -/
def k10 : Class := { plain "[I" (some 0) with kind := .array 9 .int, interfaces := #[5, 6], accessFlags := 1041 }

def heap : Heap := #[{ cls := 4, slots := #[.ref 2, .ref 1], vm := .statics 4 },
  { cls := 4, slots := #[.int 1], vm := .none },
  { cls := 4, slots := #[.int 0], vm := .none }]
def classes : Array Class := #[k0, k1, k2, k3, k4, k5, k6, k7, k8, k9, k10]
def interned : List (Array UInt16 × Addr) := []
def slotsUsed : Nat := 4
def theMethod : MethodId := ⟨1, 1⟩
def args0 : Array Value := #[.int 1, .int 2]
def aboutOver (below : List Frame) : State where
  vm := { classes := classes, interned := interned.toArray }
  heap := heap
  slotsUsed := slotsUsed
  threads := #[{ frames := .invoking theMethod args0 :: below }]
def below0 : List Frame := [.native { method := ⟨0, 0⟩, args := #[] }]
def about1 : State := aboutOver below0
def p0 : Program := .bare "" "" ""
def e0 : Env := launch0.env 0 0 0
theorem w_frames : about1.frames = Frame.invoking theMethod args0 :: below0 := rfl
set_option maxRecDepth 65536 in
theorem w_args : argsFit about1.vm theMethod args0 = true := by decide +kernel
set_option maxRecDepth 65536 in
theorem w_heap : heapFits about1 = true := by decide +kernel
set_option maxRecDepth 65536 in
theorem w_runnable : about1.curStatus? = some .runnable := by decide +kernel
set_option maxRecDepth 65536 in
theorem w_alone : about1.alone = true := by decide +kernel
set_option maxRecDepth 65536 in
theorem w_named : about1.methodNamed? x = some theMethod := by decide +kernel
set_option maxRecDepth 65536 in
theorem w_hears : about1.hears theMethod below0 = true := by decide +kernel
set_option maxRecDepth 65536 in
theorem w_ripe : about1.ripe theMethod args0 below0 = true := by decide +kernel
theorem w_running : about1.status = .running := rfl
set_option maxRecDepth 65536 in
theorem w_room : about1.hasRoom e0.platform room_1 = true :=
  launch0.hasRoom_least _ room_1 (by decide +kernel) (by decide +kernel) (by decide +kernel) (by decide +kernel) (by decide +kernel) (by decide +kernel)
theorem allAtoms_all (ts : List Jvm.Cond) (a : Array Jvm.Value) (st : Jvm.State) : (allAtoms ts).before a st = ts.all (fun c => c.before a st) := by
  induction ts with
  | nil => rfl
  | cons c t ih =>
    show (Jvm.Cond.and c (allAtoms t)).before a st = _
    rw [Jvm.Cond.before_and, ih, List.all_cons]
def words1 : List Jvm.Cond := Jvm.Cond.code x code maxLocals ret :: tables_1
/-- a 'code' word, met by the world's own term for the bytes: nothing is compared byte by byte -/
theorem code_word {y : MethodName} {bytes : ByteArray} {mx : Nat} {rt : Option FieldType} {a : Array Value} {s : State} {m : MethodId} {meth : Method} {c : Code} (h1 : s.methodNamed? y = some m) (h2 : s.vm.method? m = some meth) (h3 : meth.code = some c) (h4 : c.code = bytes)
    (h5 : (c.maxLocals == mx && c.exceptionTable.isEmpty && decide (c.maxStack ≤ mostOperands) && decide (meth.sig.returnType = rt) && !meth.locks && decide (parseMethodDescriptor y.desc = some meth.sig)) = true) : (Jvm.Cond.code y bytes mx rt).before a s = true := by
  simp only [Bool.and_eq_true, beq_iff_eq, Bool.not_eq_true', decide_eq_true_eq] at h5
  obtain ⟨⟨⟨⟨⟨g1, g2⟩, g3⟩, g4⟩, g5⟩, g6⟩ := h5
  simp [Cond.before, Cond.holds, Cond.value, h1, h2, h3, h4, g1, g2, g3, g4, g5, g6]
def isCode : Jvm.Cond → Bool
  | .code _ _ _ _ => true
  | _ => false
theorem all_split {L : List Jvm.Cond} {P : Jvm.Cond → Bool} (h1 : L.all (fun c => isCode c || P c) = true) (h2 : ∀ c ∈ L.filter isCode, P c = true) : L.all P = true := by
  refine List.all_eq_true.mpr fun c hc => ?_
  have h := List.all_eq_true.mp h1 c hc
  rcases Bool.eq_false_or_eq_true (isCode c) with hi | hi
  · exact h2 c (List.mem_filter.mpr ⟨hc, hi⟩)
  · simpa [hi] using h
set_option maxRecDepth 65536 in
theorem w_c0 : (Jvm.Cond.code x code maxLocals ret).before args0 about1 = true := code_word (m := ⟨1, 1⟩) (meth := k1m1) (c := k1c1) (by decide +kernel) rfl rfl rfl (by decide +kernel)
set_option maxRecDepth 65536 in
theorem w_c1 : (Jvm.Cond.code ({ cls := "com/example/bare_refinement/barerefinement/exploration/BooleanValue", name := "of", desc := "(Z)Lcom/example/bare_refinement/barerefinement/exploration/BooleanValue;" } : Jvm.MethodName) prog_12_method_2_code (1 : Nat) (Option.some (Jvm.ClassFile.FieldType.object "com/example/bare_refinement/barerefinement/exploration/BooleanValue"))).before args0 about1 = true := code_word (m := ⟨4, 0⟩) (meth := k4m0) (c := k4c0) (by decide +kernel) rfl rfl rfl (by decide +kernel)
set_option maxRecDepth 65536 in
theorem w_c2 : (Jvm.Cond.code ({ cls := "com/example/bare_refinement/barerefinement/exploration/BooleanValue", name := "get", desc := "()Z" } : Jvm.MethodName) prog_12_method_3_code (1 : Nat) (Option.some Jvm.ClassFile.FieldType.boolean)).before args0 about1 = true := code_word (m := ⟨4, 1⟩) (meth := k4m1) (c := k4c1) (by decide +kernel) rfl rfl rfl (by decide +kernel)
def codes1 : List Jvm.Cond := [Jvm.Cond.code x code maxLocals ret, Jvm.Cond.code ({ cls := "com/example/bare_refinement/barerefinement/exploration/BooleanValue", name := "of", desc := "(Z)Lcom/example/bare_refinement/barerefinement/exploration/BooleanValue;" } : Jvm.MethodName) prog_12_method_2_code (1 : Nat) (Option.some (Jvm.ClassFile.FieldType.object "com/example/bare_refinement/barerefinement/exploration/BooleanValue")), Jvm.Cond.code ({ cls := "com/example/bare_refinement/barerefinement/exploration/BooleanValue", name := "get", desc := "()Z" } : Jvm.MethodName) prog_12_method_3_code (1 : Nat) (Option.some Jvm.ClassFile.FieldType.boolean)]
set_option maxRecDepth 65536 in
theorem codes_eq : words1.filter isCode = codes1 := rfl
theorem w_codes : ∀ c ∈ words1.filter isCode, c.before args0 about1 = true := by
  rw [codes_eq]
  intro c hc
  simp only [codes1, List.mem_cons, List.not_mem_nil, or_false] at hc
  rcases hc with rfl | rfl | rfl
  · exact w_c0
  · exact w_c1
  · exact w_c2
set_option maxRecDepth 65536 in
theorem w_t1 : words1.all (fun c => isCode c || c.before args0 about1) = true := by decide +kernel
theorem w_tables : (allAtoms (Jvm.Cond.code x code maxLocals ret :: tables_1)).before args0 about1 = true := by
  rw [allAtoms_all]
  show words1.all (fun c => c.before args0 about1) = true
  refine all_split ?_ w_codes
  rw [w_t1]
set_option maxRecDepth 65536 in
theorem w_case : (Jvm.Cond.and given_1 narrow_1).before args0 about1 = true := by decide +kernel
theorem w_applies : (headSpec (Jvm.Cond.code x code maxLocals ret :: tables_1) room_1).applies x e0.platform about1 = true :=
  (Spec.applies_iff w_frames).mpr ⟨w_running, w_runnable, w_alone, w_named, w_hears, w_ripe, w_room, w_tables⟩
theorem atStart : AtStart classFile x code maxLocals ret World_1 tables_1 room_1 Calls_1 rest_1 Pre_1 launch0 p0 e0 about1 theMethod args0 below0 :=
  ⟨lists_1, trivial, launch0.admits_env _ _ _, launch0.least_env, fairChoices_fair.cas, fairChoices_fair.clock, w_frames, w_args, w_heap, w_applies, trivial, trivial, w_case⟩
end start1
theorem witness_1 : WitnessClaimed_1 := ⟨start1.p0, start1.e0, start1.about1, start1.theMethod, start1.args0, start1.below0, start1.atStart⟩
end Jvm.Pilot.@@N@@
