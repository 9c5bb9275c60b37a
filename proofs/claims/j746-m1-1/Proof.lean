import JvmDerived
import JvmDerived.Pilot.@@N@@Statement
import JvmDerived.Pilot.@@N@@Code
set_option linter.unusedVariables false
set_option linter.unusedSimpArgs false

namespace Jvm.RoadKit
open Sem ClassFile Op Lib Jvm.Stand Jvm.Free Jvm.LawKit
section New
variable {p : Program} {l : Launch} {e : Env} {R : Room} {s : State} {m : MethodId} {args : Array Value} {below : List Frame} {meth : Method} {c : Code} {T : State} {locs : List Loc} {cells slots : Nat}
theorem retI (X : Stand p l e R s m args below meth c T locs cells slots) (hx : p.tables.exec = Jvm.exec) {pc : Nat} {Ls : Array Slot} {z : Int32} {rest : List Value} (hret : meth.sig.returnType = some .int) (hd : decode c.code pc = .ok (.ireturn, 1)) {fs : List Frame}
    (hl : ∀ (f : JFrame) (acts : List Action), f.method = m → f.locked = none → f.entered = [] → (doReturn e (T.setTop f) acts (some (.int z))).1 = T.setFrames fs) : Steps p.tables e below (T.setTop (mkF m pc Ls (.int z :: rest))) (T.setFrames fs) := by
  have hm' : T.vm.method? m = some meth := X.method'
  have hn : narrow .int (.int z) = .int z := rfl
  show Steps p.tables e below (T.setTop { method := m, pc := pc, locals := Ls, stack := _ :: rest, locked := none }) _
  jvm_step X.here [X.here.top, hx, hd, hm', hret, hn]
  first | (intro acts; rw [hl _ acts rfl rfl rfl]) | rw [hl _ _ rfl rfl rfl]
  exact Steps.refl _
end New
end Jvm.RoadKit

namespace Jvm.Pilot.@@N@@
open Jvm Jvm.ClassFile Sem Op Lib Jvm.Free Jvm.Stand Jvm.LawKit Jvm.RoadKit Bundle Jvm.Pilot.@@N@@.Jvm.D
def own_min (x y : Int32) : Int32 := if y < x then y else x
def own_max (x y : Int32) : Int32 := if x < y then y else x
def own_keep (c : Int32) : Int32 := if 256 < c then 0 else 1
theorem own_mono (x y : Int32) (h : ¬ own_keep (own_max x y) = 0) : ¬ own_keep (own_min x y) = 0 := by
  unfold own_keep own_max own_min at *
  simp only [Int32.lt_iff_toInt_lt] at *
  revert h
  repeat' split
  all_goals first | (intro h; exact h) | (intro h; exact absurd rfl h) | (intro _; exfalso; omega) | (intro _; decide)
theorem d1_0 : decode jdk_29_method_69_code 0 = .ok (.iload_n 0, 1) := by decide +kernel
theorem d1_1 : decode jdk_29_method_69_code 1 = .ok (.iload_n 1, 1) := by decide +kernel
theorem d1_2 : decode jdk_29_method_69_code 2 = .ok (.if_icmp .gt 7, 3) := by decide +kernel
theorem d1_5 : decode jdk_29_method_69_code 5 = .ok (.iload_n 0, 1) := by decide +kernel
theorem d1_6 : decode jdk_29_method_69_code 6 = .ok (.goto 4, 3) := by decide +kernel
theorem d1_9 : decode jdk_29_method_69_code 9 = .ok (.iload_n 1, 1) := by decide +kernel
theorem d1_10 : decode jdk_29_method_69_code 10 = .ok (.ireturn, 1) := by decide +kernel
def QrmN (Z : State) (p0 : Int32) (p1 : Int32) (h0 : Heap) (n0 : Nat) (v : Option Value) (h : Heap) (L : List Loc) : Prop := v = some (.int (own_min p0 p1)) ∧ Fr n0 L ∧ h = h0
set_option maxRecDepth 65536 in
set_option maxHeartbeats 40000000 in
theorem rmN (l : Launch) (Z : State) (av0 : Array Value) (hw : ∀ d ∈ tables_1, d.before av0 Z = true) (ws : List Jvm.Cond) (p0 : Int32) (p1 : Int32) (h0 : Heap) (n0 : Nat) (Z0 : n0 ≤ h0.size)  :
    MetFree l (⟨"java/lang/Math", "min", "(II)I"⟩ : MethodName) (head1 (Jvm.Cond.code (⟨"java/lang/Math", "min", "(II)I"⟩ : MethodName) jdk_29_method_69_code 2 (some .int) :: ws) ({ frames := 0, cells := 0, slots := 0, locals := 0 } : Room)) (fun a U => a = #[(.int p0), (.int p1)] ∧ Z.Warmed39 U.vm ∧ U.heap = h0) (fun _ _ _ _ _ => True) (fun _ U o U' => ∃ v L, o = .returned v ∧ QrmN Z p0 p1 h0 n0 v U'.heap L ∧ FrameEnd U o U' L ({ frames := 0, cells := 0, slots := 0, locals := 0 } : Room).cells ({ frames := 0, cells := 0, slots := 0, locals := 0 } : Room).slots) := by
  refine MetFree.of_bodySF (Jvm.Free.JP.mathPlain rfl (by decide +kernel)) hisR ?_
  intro p e s m args below meth c s₁ Bd hml0 hP hK
  obtain ⟨rfl, hZ, hh⟩ := hP
  have hx := Bd.exec
  have hby := Bd.bytes
  have hml : c.maxLocals = 2 := hml0
  have hown : s.vm.findClass "java/lang/Math" = some m.cls := findClass_of_methodNamed Bd.named
  have hnm := (name_of_methodNamed Bd.named Bd.method).1
  have X0 : Stand p l e ({ frames := 0, cells := 0, slots := 0, locals := 0 } : Room) s m #[(.int p0), (.int p1)] below meth c s₁ [] 0 0 := Stand.of_body Bd
  have e0 : s₁.heap = h0 := by rw [← hh, Bd.state]; rfl
  have N0 := Fr.nil n0
  have pre0 : ∀ t, Steps p.tables e below (s₁.setTop (mkF m 0 #[.val (.int p0), .val (.int p1)] [])) t → Steps p.tables e below (s₁.setTop (entryFrame m #[(.int p0), (.int p1)] 2)) t := fun t k => castTop (by first | (simp [entryFrame, mkF, argsToLocals, Value.category]; done) | rfl) k
  have S1 : ∀ t, Steps p.tables e below (s₁.setTop (mkF m 2 #[.val (.int p0), .val (.int p1)] [(.int p1), (.int p0)])) t → Steps p.tables e below (s₁.setTop (mkF m 0 #[.val (.int p0), .val (.int p1)] [])) t := fun t k => id (by
    show Steps p.tables e below (s₁.setTop (mkF m 0 #[.val (.int p0), .val (.int p1)] [])) _
    refine XS.iloadN X0.here hx rfl (hb hby d1_0) rfl ?_
    show Steps p.tables e below (s₁.setTop (mkF m 1 #[.val (.int p0), .val (.int p1)] [(.int p0)])) _
    refine XS.iloadN X0.here hx rfl (hb hby d1_1) rfl ?_
    show Steps p.tables e below (s₁.setTop (mkF m 2 #[.val (.int p0), .val (.int p1)] [(.int p1), (.int p0)])) _
    exact k)
  by_cases hc2_2 : p1 < p0
  · have S3 : ∀ t, Steps p.tables e below (s₁.setTop (mkF m 10 #[.val (.int p0), .val (.int p1)] [(.int p1)])) t → Steps p.tables e below (s₁.setTop (mkF m 0 #[.val (.int p0), .val (.int p1)] [])) t := fun t k => S1 t (by
      show Steps p.tables e below (s₁.setTop (mkF m 2 #[.val (.int p0), .val (.int p1)] [(.int p1), (.int p0)])) _
      refine XS.icmpYes X0.here hx rfl (pc0 := 2) (pc' := 9) rfl (hb hby d1_2) rfl (XT.ii_gt_t hc2_2) (by decide) (by decide) ?_
      show Steps p.tables e below (s₁.setTop (mkF m 9 #[.val (.int p0), .val (.int p1)] [])) _
      refine XS.iloadN X0.here hx rfl (hb hby d1_9) rfl ?_
      show Steps p.tables e below (s₁.setTop (mkF m 10 #[.val (.int p0), .val (.int p1)] [(.int p1)])) _
      exact k)
    obtain ⟨fs, hr, hrun, hended, hW, hsame⟩ := X0.leave (v := some (.int p1)) (fun h => by rw [Bd.returns] at h; cases h)
    refine ⟨_, _, pre0 _ (S3 _ ?_), hrun, hended, _, _, rfl, ?_, ⟨_, rfl⟩, hW, hsame.mono (by decide) (by decide)⟩
    · exact retI X0 hx Bd.returns (hb hby d1_10) hr
    · show QrmN Z p0 p1 h0 n0 _ s₁.heap _
      rw [e0]
      exact ⟨by simp [own_min, hc2_2], N0, rfl⟩
  · have S4 : ∀ t, Steps p.tables e below (s₁.setTop (mkF m 10 #[.val (.int p0), .val (.int p1)] [(.int p0)])) t → Steps p.tables e below (s₁.setTop (mkF m 0 #[.val (.int p0), .val (.int p1)] [])) t := fun t k => S1 t (by
      show Steps p.tables e below (s₁.setTop (mkF m 2 #[.val (.int p0), .val (.int p1)] [(.int p1), (.int p0)])) _
      refine XS.icmpNo X0.here hx rfl (hb hby d1_2) rfl (XT.ii_gt_f hc2_2) ?_
      show Steps p.tables e below (s₁.setTop (mkF m 5 #[.val (.int p0), .val (.int p1)] [])) _
      refine XS.iloadN X0.here hx rfl (hb hby d1_5) rfl ?_
      show Steps p.tables e below (s₁.setTop (mkF m 6 #[.val (.int p0), .val (.int p1)] [(.int p0)])) _
      refine XS.goto X0.here hx rfl (pc0 := 6) (pc' := 10) rfl (hb hby d1_6) (by decide) (by decide) ?_
      show Steps p.tables e below (s₁.setTop (mkF m 10 #[.val (.int p0), .val (.int p1)] [(.int p0)])) _
      exact k)
    obtain ⟨fs, hr, hrun, hended, hW, hsame⟩ := X0.leave (v := some (.int p0)) (fun h => by rw [Bd.returns] at h; cases h)
    refine ⟨_, _, pre0 _ (S4 _ ?_), hrun, hended, _, _, rfl, ?_, ⟨_, rfl⟩, hW, hsame.mono (by decide) (by decide)⟩
    · exact retI X0 hx Bd.returns (hb hby d1_10) hr
    · show QrmN Z p0 p1 h0 n0 _ s₁.heap _
      rw [e0]
      exact ⟨by simp [own_min, hc2_2], N0, rfl⟩
theorem d2_0 : decode jdk_29_method_65_code 0 = .ok (.iload_n 0, 1) := by decide +kernel
theorem d2_1 : decode jdk_29_method_65_code 1 = .ok (.iload_n 1, 1) := by decide +kernel
theorem d2_2 : decode jdk_29_method_65_code 2 = .ok (.if_icmp .lt 7, 3) := by decide +kernel
theorem d2_5 : decode jdk_29_method_65_code 5 = .ok (.iload_n 0, 1) := by decide +kernel
theorem d2_6 : decode jdk_29_method_65_code 6 = .ok (.goto 4, 3) := by decide +kernel
theorem d2_9 : decode jdk_29_method_65_code 9 = .ok (.iload_n 1, 1) := by decide +kernel
theorem d2_10 : decode jdk_29_method_65_code 10 = .ok (.ireturn, 1) := by decide +kernel
def QrmX (Z : State) (p0 : Int32) (p1 : Int32) (h0 : Heap) (n0 : Nat) (v : Option Value) (h : Heap) (L : List Loc) : Prop := v = some (.int (own_max p0 p1)) ∧ Fr n0 L ∧ h = h0
set_option maxRecDepth 65536 in
set_option maxHeartbeats 40000000 in
theorem rmX (l : Launch) (Z : State) (av0 : Array Value) (hw : ∀ d ∈ tables_1, d.before av0 Z = true) (ws : List Jvm.Cond) (p0 : Int32) (p1 : Int32) (h0 : Heap) (n0 : Nat) (Z0 : n0 ≤ h0.size)  :
    MetFree l (⟨"java/lang/Math", "max", "(II)I"⟩ : MethodName) (head1 (Jvm.Cond.code (⟨"java/lang/Math", "max", "(II)I"⟩ : MethodName) jdk_29_method_65_code 2 (some .int) :: ws) ({ frames := 0, cells := 0, slots := 0, locals := 0 } : Room)) (fun a U => a = #[(.int p0), (.int p1)] ∧ Z.Warmed39 U.vm ∧ U.heap = h0) (fun _ _ _ _ _ => True) (fun _ U o U' => ∃ v L, o = .returned v ∧ QrmX Z p0 p1 h0 n0 v U'.heap L ∧ FrameEnd U o U' L ({ frames := 0, cells := 0, slots := 0, locals := 0 } : Room).cells ({ frames := 0, cells := 0, slots := 0, locals := 0 } : Room).slots) := by
  refine MetFree.of_bodySF (Jvm.Free.JP.mathPlain rfl (by decide +kernel)) hisR ?_
  intro p e s m args below meth c s₁ Bd hml0 hP hK
  obtain ⟨rfl, hZ, hh⟩ := hP
  have hx := Bd.exec
  have hby := Bd.bytes
  have hml : c.maxLocals = 2 := hml0
  have hown : s.vm.findClass "java/lang/Math" = some m.cls := findClass_of_methodNamed Bd.named
  have hnm := (name_of_methodNamed Bd.named Bd.method).1
  have X0 : Stand p l e ({ frames := 0, cells := 0, slots := 0, locals := 0 } : Room) s m #[(.int p0), (.int p1)] below meth c s₁ [] 0 0 := Stand.of_body Bd
  have e0 : s₁.heap = h0 := by rw [← hh, Bd.state]; rfl
  have N0 := Fr.nil n0
  have pre0 : ∀ t, Steps p.tables e below (s₁.setTop (mkF m 0 #[.val (.int p0), .val (.int p1)] [])) t → Steps p.tables e below (s₁.setTop (entryFrame m #[(.int p0), (.int p1)] 2)) t := fun t k => castTop (by first | (simp [entryFrame, mkF, argsToLocals, Value.category]; done) | rfl) k
  have S1 : ∀ t, Steps p.tables e below (s₁.setTop (mkF m 2 #[.val (.int p0), .val (.int p1)] [(.int p1), (.int p0)])) t → Steps p.tables e below (s₁.setTop (mkF m 0 #[.val (.int p0), .val (.int p1)] [])) t := fun t k => id (by
    show Steps p.tables e below (s₁.setTop (mkF m 0 #[.val (.int p0), .val (.int p1)] [])) _
    refine XS.iloadN X0.here hx rfl (hb hby d2_0) rfl ?_
    show Steps p.tables e below (s₁.setTop (mkF m 1 #[.val (.int p0), .val (.int p1)] [(.int p0)])) _
    refine XS.iloadN X0.here hx rfl (hb hby d2_1) rfl ?_
    show Steps p.tables e below (s₁.setTop (mkF m 2 #[.val (.int p0), .val (.int p1)] [(.int p1), (.int p0)])) _
    exact k)
  by_cases hc2_2 : p0 < p1
  · have S3 : ∀ t, Steps p.tables e below (s₁.setTop (mkF m 10 #[.val (.int p0), .val (.int p1)] [(.int p1)])) t → Steps p.tables e below (s₁.setTop (mkF m 0 #[.val (.int p0), .val (.int p1)] [])) t := fun t k => S1 t (by
      show Steps p.tables e below (s₁.setTop (mkF m 2 #[.val (.int p0), .val (.int p1)] [(.int p1), (.int p0)])) _
      refine XS.icmpYes X0.here hx rfl (pc0 := 2) (pc' := 9) rfl (hb hby d2_2) rfl (XT.ii_lt_t hc2_2) (by decide) (by decide) ?_
      show Steps p.tables e below (s₁.setTop (mkF m 9 #[.val (.int p0), .val (.int p1)] [])) _
      refine XS.iloadN X0.here hx rfl (hb hby d2_9) rfl ?_
      show Steps p.tables e below (s₁.setTop (mkF m 10 #[.val (.int p0), .val (.int p1)] [(.int p1)])) _
      exact k)
    obtain ⟨fs, hr, hrun, hended, hW, hsame⟩ := X0.leave (v := some (.int p1)) (fun h => by rw [Bd.returns] at h; cases h)
    refine ⟨_, _, pre0 _ (S3 _ ?_), hrun, hended, _, _, rfl, ?_, ⟨_, rfl⟩, hW, hsame.mono (by decide) (by decide)⟩
    · exact retI X0 hx Bd.returns (hb hby d2_10) hr
    · show QrmX Z p0 p1 h0 n0 _ s₁.heap _
      rw [e0]
      exact ⟨by simp [own_max, hc2_2], N0, rfl⟩
  · have S4 : ∀ t, Steps p.tables e below (s₁.setTop (mkF m 10 #[.val (.int p0), .val (.int p1)] [(.int p0)])) t → Steps p.tables e below (s₁.setTop (mkF m 0 #[.val (.int p0), .val (.int p1)] [])) t := fun t k => S1 t (by
      show Steps p.tables e below (s₁.setTop (mkF m 2 #[.val (.int p0), .val (.int p1)] [(.int p1), (.int p0)])) _
      refine XS.icmpNo X0.here hx rfl (hb hby d2_2) rfl (XT.ii_lt_f hc2_2) ?_
      show Steps p.tables e below (s₁.setTop (mkF m 5 #[.val (.int p0), .val (.int p1)] [])) _
      refine XS.iloadN X0.here hx rfl (hb hby d2_5) rfl ?_
      show Steps p.tables e below (s₁.setTop (mkF m 6 #[.val (.int p0), .val (.int p1)] [(.int p0)])) _
      refine XS.goto X0.here hx rfl (pc0 := 6) (pc' := 10) rfl (hb hby d2_6) (by decide) (by decide) ?_
      show Steps p.tables e below (s₁.setTop (mkF m 10 #[.val (.int p0), .val (.int p1)] [(.int p0)])) _
      exact k)
    obtain ⟨fs, hr, hrun, hended, hW, hsame⟩ := X0.leave (v := some (.int p0)) (fun h => by rw [Bd.returns] at h; cases h)
    refine ⟨_, _, pre0 _ (S4 _ ?_), hrun, hended, _, _, rfl, ?_, ⟨_, rfl⟩, hW, hsame.mono (by decide) (by decide)⟩
    · exact retI X0 hx Bd.returns (hb hby d2_10) hr
    · show QrmX Z p0 p1 h0 n0 _ s₁.heap _
      rw [e0]
      exact ⟨by simp [own_max, hc2_2], N0, rfl⟩
theorem d3_0 : decode prog_8_method_2_code 0 = .ok (.iload_n 0, 1) := by decide +kernel
theorem d3_1 : decode prog_8_method_2_code 1 = .ok (.sipush 256, 3) := by decide +kernel
theorem d3_4 : decode prog_8_method_2_code 4 = .ok (.if_icmp .gt 7, 3) := by decide +kernel
theorem d3_7 : decode prog_8_method_2_code 7 = .ok (.iconst 1, 1) := by decide +kernel
theorem d3_8 : decode prog_8_method_2_code 8 = .ok (.goto 4, 3) := by decide +kernel
theorem d3_11 : decode prog_8_method_2_code 11 = .ok (.iconst 0, 1) := by decide +kernel
theorem d3_12 : decode prog_8_method_2_code 12 = .ok (.ireturn, 1) := by decide +kernel
theorem pn_ProductChain : plainName "com/example/prolong/prolong/ctmc/ProductChain" = true := by first | (simp [plainName, overriddenIn]; done) | decide +kernel
def QrmK (Z : State) (p0 : Int32) (h0 : Heap) (n0 : Nat) (v : Option Value) (h : Heap) (L : List Loc) : Prop := v = some (.int (own_keep p0)) ∧ Fr n0 L ∧ h = h0
set_option maxRecDepth 65536 in
set_option maxHeartbeats 40000000 in
theorem rmK (l : Launch) (Z : State) (av0 : Array Value) (hw : ∀ d ∈ tables_1, d.before av0 Z = true) (ws : List Jvm.Cond) (p0 : Int32) (h0 : Heap) (n0 : Nat) (Z0 : n0 ≤ h0.size)  :
    MetFree l (⟨"com/example/prolong/prolong/ctmc/ProductChain", "keepsMoves", "(I)Z"⟩ : MethodName) (head1 (Jvm.Cond.code (⟨"com/example/prolong/prolong/ctmc/ProductChain", "keepsMoves", "(I)Z"⟩ : MethodName) prog_8_method_2_code 1 (some .boolean) :: ws) ({ frames := 0, cells := 0, slots := 0, locals := 0 } : Room)) (fun a U => a = #[(.int p0)] ∧ Z.Warmed39 U.vm ∧ U.heap = h0) (fun _ _ _ _ _ => True) (fun _ U o U' => ∃ v L, o = .returned v ∧ QrmK Z p0 h0 n0 v U'.heap L ∧ FrameEnd U o U' L ({ frames := 0, cells := 0, slots := 0, locals := 0 } : Room).cells ({ frames := 0, cells := 0, slots := 0, locals := 0 } : Room).slots) := by
  refine MetFree.of_bodySF (plainFor_of_name pn_ProductChain) hisR ?_
  intro p e s m args below meth c s₁ Bd hml0 hP hK
  obtain ⟨rfl, hZ, hh⟩ := hP
  have hx := Bd.exec
  have hby := Bd.bytes
  have hml : c.maxLocals = 1 := hml0
  have hown : s.vm.findClass "com/example/prolong/prolong/ctmc/ProductChain" = some m.cls := findClass_of_methodNamed Bd.named
  have hnm := (name_of_methodNamed Bd.named Bd.method).1
  have X0 : Stand p l e ({ frames := 0, cells := 0, slots := 0, locals := 0 } : Room) s m #[(.int p0)] below meth c s₁ [] 0 0 := Stand.of_body Bd
  have e0 : s₁.heap = h0 := by rw [← hh, Bd.state]; rfl
  have N0 := Fr.nil n0
  have pre0 : ∀ t, Steps p.tables e below (s₁.setTop (mkF m 0 #[.val (.int p0)] [])) t → Steps p.tables e below (s₁.setTop (entryFrame m #[(.int p0)] 1)) t := fun t k => castTop (by first | (simp [entryFrame, mkF, argsToLocals, Value.category]; done) | rfl) k
  have S1 : ∀ t, Steps p.tables e below (s₁.setTop (mkF m 4 #[.val (.int p0)] [(.int (256 : Int32)), (.int p0)])) t → Steps p.tables e below (s₁.setTop (mkF m 0 #[.val (.int p0)] [])) t := fun t k => id (by
    show Steps p.tables e below (s₁.setTop (mkF m 0 #[.val (.int p0)] [])) _
    refine XS.iloadN X0.here hx rfl (hb hby d3_0) rfl ?_
    show Steps p.tables e below (s₁.setTop (mkF m 1 #[.val (.int p0)] [(.int p0)])) _
    refine XT.sipushV X0.here hx rfl (256 : Int32) (hb hby d3_1) (by decide) ?_
    show Steps p.tables e below (s₁.setTop (mkF m 4 #[.val (.int p0)] [(.int (256 : Int32)), (.int p0)])) _
    exact k)
  by_cases hc4_2 : (256 : Int32) < p0
  · have S3 : ∀ t, Steps p.tables e below (s₁.setTop (mkF m 12 #[.val (.int p0)] [(.int (0 : Int32))])) t → Steps p.tables e below (s₁.setTop (mkF m 0 #[.val (.int p0)] [])) t := fun t k => S1 t (by
      show Steps p.tables e below (s₁.setTop (mkF m 4 #[.val (.int p0)] [(.int (256 : Int32)), (.int p0)])) _
      refine XS.icmpYes X0.here hx rfl (pc0 := 4) (pc' := 11) rfl (hb hby d3_4) rfl (XT.ii_gt_t hc4_2) (by decide) (by decide) ?_
      show Steps p.tables e below (s₁.setTop (mkF m 11 #[.val (.int p0)] [])) _
      refine XT.iconstV X0.here hx rfl (0 : Int32) (hb hby d3_11) (by decide) ?_
      show Steps p.tables e below (s₁.setTop (mkF m 12 #[.val (.int p0)] [(.int (0 : Int32))])) _
      exact k)
    obtain ⟨fs, hr, hrun, hended, hW, hsame⟩ := X0.leave (v := some (.int (0 : Int32))) (fun h => by rw [Bd.returns] at h; cases h)
    refine ⟨_, _, pre0 _ (S3 _ ?_), hrun, hended, _, _, rfl, ?_, ⟨_, rfl⟩, hW, hsame.mono (by decide) (by decide)⟩
    · exact retN X0 hx (t := .boolean) Bd.returns (by simp) (hb hby d3_12) hr
    · show QrmK Z p0 h0 n0 _ s₁.heap _
      rw [e0]
      exact ⟨by simp [own_keep, hc4_2], N0, rfl⟩
  · have S4 : ∀ t, Steps p.tables e below (s₁.setTop (mkF m 12 #[.val (.int p0)] [(.int (1 : Int32))])) t → Steps p.tables e below (s₁.setTop (mkF m 0 #[.val (.int p0)] [])) t := fun t k => S1 t (by
      show Steps p.tables e below (s₁.setTop (mkF m 4 #[.val (.int p0)] [(.int (256 : Int32)), (.int p0)])) _
      refine XS.icmpNo X0.here hx rfl (hb hby d3_4) rfl (XT.ii_gt_f hc4_2) ?_
      show Steps p.tables e below (s₁.setTop (mkF m 7 #[.val (.int p0)] [])) _
      refine XT.iconstV X0.here hx rfl (1 : Int32) (hb hby d3_7) (by decide) ?_
      show Steps p.tables e below (s₁.setTop (mkF m 8 #[.val (.int p0)] [(.int (1 : Int32))])) _
      refine XS.goto X0.here hx rfl (pc0 := 8) (pc' := 12) rfl (hb hby d3_8) (by decide) (by decide) ?_
      show Steps p.tables e below (s₁.setTop (mkF m 12 #[.val (.int p0)] [(.int (1 : Int32))])) _
      exact k)
    obtain ⟨fs, hr, hrun, hended, hW, hsame⟩ := X0.leave (v := some (.int (1 : Int32))) (fun h => by rw [Bd.returns] at h; cases h)
    refine ⟨_, _, pre0 _ (S4 _ ?_), hrun, hended, _, _, rfl, ?_, ⟨_, rfl⟩, hW, hsame.mono (by decide) (by decide)⟩
    · exact retN X0 hx (t := .boolean) Bd.returns (by simp) (hb hby d3_12) hr
    · show QrmK Z p0 h0 n0 _ s₁.heap _
      rw [e0]
      exact ⟨by simp [own_keep, hc4_2], N0, rfl⟩
theorem pn_ProductChainKeepsMovesPinLaw : plainName "com/example/prolong/prolong/ctmc/ProductChainKeepsMovesPinLaw" = true := by first | (simp [plainName, overriddenIn]; done) | decide +kernel
theorem pd__II_I : parseMethodDescriptor "(II)I" = some ⟨[.int, .int], some .int⟩ := by decide +kernel
theorem pd__I_Z : parseMethodDescriptor "(I)Z" = some ⟨[.int], some .boolean⟩ := by decide +kernel
def Qrm0 (Z : State) (p0 : Int32) (p1 : Int32) (h0 : Heap) (n0 : Nat) (v : Option Value) (h : Heap) (L : List Loc) : Prop := v = some (.int 1) ∧ Fr n0 L
set_option maxRecDepth 65536 in
set_option maxHeartbeats 40000000 in
theorem rm0 (l : Launch) (Z : State) (av0 : Array Value) (hw : ∀ d ∈ tables_1, d.before av0 Z = true) (ws : List Jvm.Cond) (p0 : Int32) (p1 : Int32) (h0 : Heap) (n0 : Nat) (Z0 : n0 ≤ h0.size)  :
    MetFree l x (head1 (Jvm.Cond.code x code maxLocals ret :: ws) room_1) (fun a U => a = #[(.int p0), (.int p1)] ∧ Z.Warmed39 U.vm ∧ U.heap = h0) (fun _ _ _ _ _ => True) (fun _ U o U' => ∃ v L, o = .returned v ∧ Qrm0 Z p0 p1 h0 n0 v U'.heap L ∧ FrameEnd U o U' L room_1.cells room_1.slots) := by
  refine MetFree.of_bodySF (plainFor_of_name pn_ProductChainKeepsMovesPinLaw) hisR ?_
  intro p e s m args below meth c s₁ Bd hml0 hP hK
  obtain ⟨rfl, hZ, hh⟩ := hP
  have hx := Bd.exec
  have hby := Bd.bytes
  have hml : c.maxLocals = 9 := hml0
  have hown : s.vm.findClass "com/example/prolong/prolong/ctmc/ProductChainKeepsMovesPinLaw" = some m.cls := findClass_of_methodNamed Bd.named
  have hnm := (name_of_methodNamed Bd.named Bd.method).1
  have X0 : Stand p l e room_1 s m #[(.int p0), (.int p1)] below meth c s₁ [] 0 0 := Stand.of_body Bd
  have e0 : s₁.heap = h0 := by rw [← hh, Bd.state]; rfl
  have N0 := Fr.nil n0
  have pre0 : ∀ t, Steps p.tables e below (s₁.setTop (mkF m 0 #[.val (.int p0), .val (.int p1), .unset, .unset, .unset, .unset, .unset, .unset, .unset] [])) t → Steps p.tables e below (s₁.setTop (entryFrame m #[(.int p0), (.int p1)] maxLocals)) t := fun t k => castTop (by first | (simp [entryFrame, mkF, argsToLocals, Value.category, maxLocals]; done) | rfl) k
  obtain ⟨_, _, ⟨T1, L1, k1, n1⟩, -, X1, ⟨Lc1, hQ1, l1, y1, z1⟩, st1⟩ := Jvm.LawKit.callS X0 hx (y := (⟨"java/lang/Math", "min", "(II)I"⟩ : MethodName)) hown (mvT hZ (hw _ (List.mem_of_getElem? (i := 0) rfl))) (mvT hZ (hw _ (List.mem_of_getElem? (i := 1) rfl))) (mvT hZ (hw _ (List.mem_of_getElem? (i := 2) rfl))) (mvT hZ (hw _ (List.mem_of_getElem? (i := 3) rfl))) (by decide) (backOf (W := 0) (rmN l Z av0 hw [] p0 p1 h0 n0 Z0) hZ (hw _ (List.mem_of_getElem? (i := 3) rfl)) (hw _ (List.mem_of_getElem? (i := 2) rfl)) (by decide) (by decide)) (g := (mkF m 2 #[.val (.int p0), .val (.int p1), .unset, .unset, .unset, .unset, .unset, .unset, .unset] [(.int p1), (.int p0)])) rfl (by rw [hml]; rfl) (argsL := [(.int p0), (.int p1)]) (rest := []) (lenOf pd__II_I rfl) rfl (by show 2 * 0 + _ ≤ _; exact Nat.le_of_eq rfl) (hb hby at_2) (fun _ _ => ⟨rfl, e0, (by decide : 0 + 0 ≤ _), (by decide : 0 + 0 ≤ _)⟩)
  dsimp only [Pt.U, Pt.locs, Pt.cells, Pt.slots] at X1 l1 y1 z1 st1 hQ1
  subst l1 y1 z1
  obtain ⟨rfl, N1q, hh1⟩ := hQ1
  have N1 := Fr.app N0 N1q
  have e1 : T1.heap = h0 := hh1
  obtain ⟨_, _, ⟨T2, L2, k2, n2⟩, -, X2, ⟨Lc2, hQ2, l2, y2, z2⟩, st2⟩ := Jvm.LawKit.callS X1 hx (y := (⟨"java/lang/Math", "max", "(II)I"⟩ : MethodName)) hown (mvT hZ (hw _ (List.mem_of_getElem? (i := 4) rfl))) (mvT hZ (hw _ (List.mem_of_getElem? (i := 5) rfl))) (mvT hZ (hw _ (List.mem_of_getElem? (i := 2) rfl))) (mvT hZ (hw _ (List.mem_of_getElem? (i := 6) rfl))) (by decide) (backOf (W := 0) (rmX l Z av0 hw [] p0 p1 h0 n0 Z0) hZ (hw _ (List.mem_of_getElem? (i := 6) rfl)) (hw _ (List.mem_of_getElem? (i := 2) rfl)) (by decide) (by decide)) (g := (mkF m 8 #[.val (.int p0), .val (.int p1), .val (.int (own_min p0 p1)), .unset, .unset, .unset, .unset, .unset, .unset] [(.int p1), (.int p0)])) rfl (by rw [hml]; rfl) (argsL := [(.int p0), (.int p1)]) (rest := []) (lenOf pd__II_I rfl) rfl (by show 2 * 0 + _ ≤ _; exact Nat.le_of_eq rfl) (hb hby at_8) (fun _ _ => ⟨rfl, e1, (by decide : 0 + 0 ≤ _), (by decide : 0 + 0 ≤ _)⟩)
  dsimp only [Pt.U, Pt.locs, Pt.cells, Pt.slots] at X2 l2 y2 z2 st2 hQ2
  subst l2 y2 z2
  obtain ⟨rfl, N2q, hh2⟩ := hQ2
  have N2 := Fr.app N1 N2q
  have e2 : T2.heap = h0 := hh2
  obtain ⟨_, _, ⟨T3, L3, k3, n3⟩, -, X3, ⟨Lc3, hQ3, l3, y3, z3⟩, st3⟩ := Jvm.LawKit.callS X2 hx (y := (⟨"com/example/prolong/prolong/ctmc/ProductChain", "keepsMoves", "(I)Z"⟩ : MethodName)) hown (mvT hZ (hw _ (List.mem_of_getElem? (i := 7) rfl))) (mvT hZ (hw _ (List.mem_of_getElem? (i := 8) rfl))) (mvT hZ (hw _ (List.mem_of_getElem? (i := 9) rfl))) (mvT hZ (hw _ (List.mem_of_getElem? (i := 10) rfl))) (by decide) (backOf (W := 0) (rmK l Z av0 hw [] (own_max p0 p1) h0 n0 Z0) hZ (hw _ (List.mem_of_getElem? (i := 10) rfl)) (hw _ (List.mem_of_getElem? (i := 9) rfl)) (by decide) (by decide)) (g := (mkF m 13 #[.val (.int p0), .val (.int p1), .val (.int (own_min p0 p1)), .val (.int (own_max p0 p1)), .unset, .unset, .unset, .unset, .unset] [(.int (own_max p0 p1))])) rfl (by rw [hml]; rfl) (argsL := [(.int (own_max p0 p1))]) (rest := []) (lenOf pd__I_Z rfl) rfl (by show 2 * 0 + _ ≤ _; exact Nat.le_of_eq rfl) (hb hby at_13) (fun _ _ => ⟨rfl, e2, (by decide : 0 + 0 ≤ _), (by decide : 0 + 0 ≤ _)⟩)
  dsimp only [Pt.U, Pt.locs, Pt.cells, Pt.slots] at X3 l3 y3 z3 st3 hQ3
  subst l3 y3 z3
  obtain ⟨rfl, N3q, hh3⟩ := hQ3
  have N3 := Fr.app N2 N3q
  have e3 : T3.heap = h0 := hh3
  obtain ⟨_, _, ⟨T4, L4, k4, n4⟩, -, X4, ⟨Lc4, hQ4, l4, y4, z4⟩, st4⟩ := Jvm.LawKit.callS X3 hx (y := (⟨"com/example/prolong/prolong/ctmc/ProductChain", "keepsMoves", "(I)Z"⟩ : MethodName)) hown (mvT hZ (hw _ (List.mem_of_getElem? (i := 7) rfl))) (mvT hZ (hw _ (List.mem_of_getElem? (i := 8) rfl))) (mvT hZ (hw _ (List.mem_of_getElem? (i := 9) rfl))) (mvT hZ (hw _ (List.mem_of_getElem? (i := 10) rfl))) (by decide) (backOf (W := 0) (rmK l Z av0 hw [] (own_min p0 p1) h0 n0 Z0) hZ (hw _ (List.mem_of_getElem? (i := 10) rfl)) (hw _ (List.mem_of_getElem? (i := 9) rfl)) (by decide) (by decide)) (g := (mkF m 19 #[.val (.int p0), .val (.int p1), .val (.int (own_min p0 p1)), .val (.int (own_max p0 p1)), .val (.int (own_keep (own_max p0 p1))), .unset, .unset, .unset, .unset] [(.int (own_min p0 p1))])) rfl (by rw [hml]; rfl) (argsL := [(.int (own_min p0 p1))]) (rest := []) (lenOf pd__I_Z rfl) rfl (by show 2 * 0 + _ ≤ _; exact Nat.le_of_eq rfl) (hb hby at_19) (fun _ _ => ⟨rfl, e3, (by decide : 0 + 0 ≤ _), (by decide : 0 + 0 ≤ _)⟩)
  dsimp only [Pt.U, Pt.locs, Pt.cells, Pt.slots] at X4 l4 y4 z4 st4 hQ4
  subst l4 y4 z4
  obtain ⟨rfl, N4q, hh4⟩ := hQ4
  have N4 := Fr.app N3 N4q
  have e4 : T4.heap = h0 := hh4
  have S5 : ∀ t, Steps p.tables e below (T4.setTop (mkF m 26 #[.val (.int p0), .val (.int p1), .val (.int (own_min p0 p1)), .val (.int (own_max p0 p1)), .val (.int (own_keep (own_max p0 p1))), .val (.int (own_keep (own_min p0 p1))), .unset, .unset, .unset] [(.int (own_keep (own_max p0 p1)))])) t → Steps p.tables e below (s₁.setTop (mkF m 0 #[.val (.int p0), .val (.int p1), .unset, .unset, .unset, .unset, .unset, .unset, .unset] [])) t := fun t k => id (by
    show Steps p.tables e below (s₁.setTop (mkF m 0 #[.val (.int p0), .val (.int p1), .unset, .unset, .unset, .unset, .unset, .unset, .unset] [])) _
    refine XS.iloadN X0.here hx rfl (hb hby at_0) rfl ?_
    show Steps p.tables e below (s₁.setTop (mkF m 1 #[.val (.int p0), .val (.int p1), .unset, .unset, .unset, .unset, .unset, .unset, .unset] [(.int p0)])) _
    refine XS.iloadN X0.here hx rfl (hb hby at_1) rfl ?_
    show Steps p.tables e below (s₁.setTop (mkF m 2 #[.val (.int p0), .val (.int p1), .unset, .unset, .unset, .unset, .unset, .unset, .unset] [(.int p1), (.int p0)])) _
    refine st1 _ ?_
    show Steps p.tables e below (T1.setTop (mkF m 5 #[.val (.int p0), .val (.int p1), .unset, .unset, .unset, .unset, .unset, .unset, .unset] [(.int (own_min p0 p1))])) _
    refine XS.istoreN X1.here hx rfl (hb hby at_5) rfl (l' := #[.val (.int p0), .val (.int p1), .val (.int (own_min p0 p1)), .unset, .unset, .unset, .unset, .unset, .unset]) rfl ?_
    show Steps p.tables e below (T1.setTop (mkF m 6 #[.val (.int p0), .val (.int p1), .val (.int (own_min p0 p1)), .unset, .unset, .unset, .unset, .unset, .unset] [])) _
    refine XS.iloadN X1.here hx rfl (hb hby at_6) rfl ?_
    show Steps p.tables e below (T1.setTop (mkF m 7 #[.val (.int p0), .val (.int p1), .val (.int (own_min p0 p1)), .unset, .unset, .unset, .unset, .unset, .unset] [(.int p0)])) _
    refine XS.iloadN X1.here hx rfl (hb hby at_7) rfl ?_
    show Steps p.tables e below (T1.setTop (mkF m 8 #[.val (.int p0), .val (.int p1), .val (.int (own_min p0 p1)), .unset, .unset, .unset, .unset, .unset, .unset] [(.int p1), (.int p0)])) _
    refine st2 _ ?_
    show Steps p.tables e below (T2.setTop (mkF m 11 #[.val (.int p0), .val (.int p1), .val (.int (own_min p0 p1)), .unset, .unset, .unset, .unset, .unset, .unset] [(.int (own_max p0 p1))])) _
    refine XS.istoreN X2.here hx rfl (hb hby at_11) rfl (l' := #[.val (.int p0), .val (.int p1), .val (.int (own_min p0 p1)), .val (.int (own_max p0 p1)), .unset, .unset, .unset, .unset, .unset]) rfl ?_
    show Steps p.tables e below (T2.setTop (mkF m 12 #[.val (.int p0), .val (.int p1), .val (.int (own_min p0 p1)), .val (.int (own_max p0 p1)), .unset, .unset, .unset, .unset, .unset] [])) _
    refine XS.iloadN X2.here hx rfl (hb hby at_12) rfl ?_
    show Steps p.tables e below (T2.setTop (mkF m 13 #[.val (.int p0), .val (.int p1), .val (.int (own_min p0 p1)), .val (.int (own_max p0 p1)), .unset, .unset, .unset, .unset, .unset] [(.int (own_max p0 p1))])) _
    refine st3 _ ?_
    show Steps p.tables e below (T3.setTop (mkF m 16 #[.val (.int p0), .val (.int p1), .val (.int (own_min p0 p1)), .val (.int (own_max p0 p1)), .unset, .unset, .unset, .unset, .unset] [(.int (own_keep (own_max p0 p1)))])) _
    refine XS.istore X3.here hx rfl (hb hby at_16) rfl (l' := #[.val (.int p0), .val (.int p1), .val (.int (own_min p0 p1)), .val (.int (own_max p0 p1)), .val (.int (own_keep (own_max p0 p1))), .unset, .unset, .unset, .unset]) rfl ?_
    show Steps p.tables e below (T3.setTop (mkF m 18 #[.val (.int p0), .val (.int p1), .val (.int (own_min p0 p1)), .val (.int (own_max p0 p1)), .val (.int (own_keep (own_max p0 p1))), .unset, .unset, .unset, .unset] [])) _
    refine XS.iloadN X3.here hx rfl (hb hby at_18) rfl ?_
    show Steps p.tables e below (T3.setTop (mkF m 19 #[.val (.int p0), .val (.int p1), .val (.int (own_min p0 p1)), .val (.int (own_max p0 p1)), .val (.int (own_keep (own_max p0 p1))), .unset, .unset, .unset, .unset] [(.int (own_min p0 p1))])) _
    refine st4 _ ?_
    show Steps p.tables e below (T4.setTop (mkF m 22 #[.val (.int p0), .val (.int p1), .val (.int (own_min p0 p1)), .val (.int (own_max p0 p1)), .val (.int (own_keep (own_max p0 p1))), .unset, .unset, .unset, .unset] [(.int (own_keep (own_min p0 p1)))])) _
    refine XS.istore X4.here hx rfl (hb hby at_22) rfl (l' := #[.val (.int p0), .val (.int p1), .val (.int (own_min p0 p1)), .val (.int (own_max p0 p1)), .val (.int (own_keep (own_max p0 p1))), .val (.int (own_keep (own_min p0 p1))), .unset, .unset, .unset]) rfl ?_
    show Steps p.tables e below (T4.setTop (mkF m 24 #[.val (.int p0), .val (.int p1), .val (.int (own_min p0 p1)), .val (.int (own_max p0 p1)), .val (.int (own_keep (own_max p0 p1))), .val (.int (own_keep (own_min p0 p1))), .unset, .unset, .unset] [])) _
    refine XS.iload X4.here hx rfl (hb hby at_24) rfl ?_
    show Steps p.tables e below (T4.setTop (mkF m 26 #[.val (.int p0), .val (.int p1), .val (.int (own_min p0 p1)), .val (.int (own_max p0 p1)), .val (.int (own_keep (own_max p0 p1))), .val (.int (own_keep (own_min p0 p1))), .unset, .unset, .unset] [(.int (own_keep (own_max p0 p1)))])) _
    exact k)
  by_cases hc26_6 : (own_keep (own_max p0 p1)) = (0 : Int32)
  · obtain ⟨_, _, ⟨T7, L7, k7, n7⟩, -, X7, ⟨Lc7, hQ7, l7, y7, z7⟩, st7⟩ := Jvm.LawKit.callS X4 hx (y := (⟨"com/example/prolong/prolong/ctmc/ProductChain", "keepsMoves", "(I)Z"⟩ : MethodName)) hown (mvT hZ (hw _ (List.mem_of_getElem? (i := 7) rfl))) (mvT hZ (hw _ (List.mem_of_getElem? (i := 8) rfl))) (mvT hZ (hw _ (List.mem_of_getElem? (i := 9) rfl))) (mvT hZ (hw _ (List.mem_of_getElem? (i := 10) rfl))) (by decide) (backOf (W := 0) (rmK l Z av0 hw [] (256 : Int32) h0 n0 Z0) hZ (hw _ (List.mem_of_getElem? (i := 10) rfl)) (hw _ (List.mem_of_getElem? (i := 9) rfl)) (by decide) (by decide)) (g := (mkF m 44 #[.val (.int p0), .val (.int p1), .val (.int (own_min p0 p1)), .val (.int (own_max p0 p1)), .val (.int (own_keep (own_max p0 p1))), .val (.int (own_keep (own_min p0 p1))), .val (.int (1 : Int32)), .unset, .unset] [(.int (256 : Int32))])) rfl (by rw [hml]; rfl) (argsL := [(.int (256 : Int32))]) (rest := []) (lenOf pd__I_Z rfl) rfl (by show 2 * 0 + _ ≤ _; exact Nat.le_of_eq rfl) (hb hby at_44) (fun _ _ => ⟨rfl, e4, (by decide : 0 + 0 ≤ _), (by decide : 0 + 0 ≤ _)⟩)
    dsimp only [Pt.U, Pt.locs, Pt.cells, Pt.slots] at X7 l7 y7 z7 st7 hQ7
    subst l7 y7 z7
    obtain ⟨rfl, N7q, hh7⟩ := hQ7
    have N7 := Fr.app N4 N7q
    have e7 : T7.heap = h0 := hh7
    obtain ⟨_, _, ⟨T8, L8, k8, n8⟩, -, X8, ⟨Lc8, hQ8, l8, y8, z8⟩, st8⟩ := Jvm.LawKit.callS X7 hx (y := (⟨"com/example/prolong/prolong/ctmc/ProductChain", "keepsMoves", "(I)Z"⟩ : MethodName)) hown (mvT hZ (hw _ (List.mem_of_getElem? (i := 7) rfl))) (mvT hZ (hw _ (List.mem_of_getElem? (i := 8) rfl))) (mvT hZ (hw _ (List.mem_of_getElem? (i := 9) rfl))) (mvT hZ (hw _ (List.mem_of_getElem? (i := 10) rfl))) (by decide) (backOf (W := 0) (rmK l Z av0 hw [] (257 : Int32) h0 n0 Z0) hZ (hw _ (List.mem_of_getElem? (i := 10) rfl)) (hw _ (List.mem_of_getElem? (i := 9) rfl)) (by decide) (by decide)) (g := (mkF m 52 #[.val (.int p0), .val (.int p1), .val (.int (own_min p0 p1)), .val (.int (own_max p0 p1)), .val (.int (own_keep (own_max p0 p1))), .val (.int (own_keep (own_min p0 p1))), .val (.int (1 : Int32)), .val (.int (own_keep (256 : Int32))), .unset] [(.int (257 : Int32))])) rfl (by rw [hml]; rfl) (argsL := [(.int (257 : Int32))]) (rest := []) (lenOf pd__I_Z rfl) rfl (by show 2 * 0 + _ ≤ _; exact Nat.le_of_eq rfl) (hb hby at_52) (fun _ _ => ⟨rfl, e7, (by decide : 0 + 0 ≤ _), (by decide : 0 + 0 ≤ _)⟩)
    dsimp only [Pt.U, Pt.locs, Pt.cells, Pt.slots] at X8 l8 y8 z8 st8 hQ8
    subst l8 y8 z8
    obtain ⟨rfl, N8q, hh8⟩ := hQ8
    have N8 := Fr.app N7 N8q
    have e8 : T8.heap = h0 := hh8
    have S9 : ∀ t, Steps p.tables e below (T8.setTop (mkF m 77 #[.val (.int p0), .val (.int p1), .val (.int (own_min p0 p1)), .val (.int (own_max p0 p1)), .val (.int (own_keep (own_max p0 p1))), .val (.int (own_keep (own_min p0 p1))), .val (.int (1 : Int32)), .val (.int (own_keep (256 : Int32))), .val (.int (own_keep (257 : Int32)))] [(.int (1 : Int32))])) t → Steps p.tables e below (s₁.setTop (mkF m 0 #[.val (.int p0), .val (.int p1), .unset, .unset, .unset, .unset, .unset, .unset, .unset] [])) t := fun t k => S5 t (by
      show Steps p.tables e below (T4.setTop (mkF m 26 #[.val (.int p0), .val (.int p1), .val (.int (own_min p0 p1)), .val (.int (own_max p0 p1)), .val (.int (own_keep (own_max p0 p1))), .val (.int (own_keep (own_min p0 p1))), .unset, .unset, .unset] [(.int (own_keep (own_max p0 p1)))])) _
      refine XS.ifYes X4.here hx rfl (pc0 := 26) (pc' := 34) rfl (hb hby at_26) rfl (XT.i0_eq_t hc26_6) (by decide) (by decide) ?_
      show Steps p.tables e below (T4.setTop (mkF m 34 #[.val (.int p0), .val (.int p1), .val (.int (own_min p0 p1)), .val (.int (own_max p0 p1)), .val (.int (own_keep (own_max p0 p1))), .val (.int (own_keep (own_min p0 p1))), .unset, .unset, .unset] [])) _
      refine XT.iconstV X4.here hx rfl (1 : Int32) (hb hby at_34) (by decide) ?_
      show Steps p.tables e below (T4.setTop (mkF m 35 #[.val (.int p0), .val (.int p1), .val (.int (own_min p0 p1)), .val (.int (own_max p0 p1)), .val (.int (own_keep (own_max p0 p1))), .val (.int (own_keep (own_min p0 p1))), .unset, .unset, .unset] [(.int (1 : Int32))])) _
      refine XS.goto X4.here hx rfl (pc0 := 35) (pc' := 39) rfl (hb hby at_35) (by decide) (by decide) ?_
      show Steps p.tables e below (T4.setTop (mkF m 39 #[.val (.int p0), .val (.int p1), .val (.int (own_min p0 p1)), .val (.int (own_max p0 p1)), .val (.int (own_keep (own_max p0 p1))), .val (.int (own_keep (own_min p0 p1))), .unset, .unset, .unset] [(.int (1 : Int32))])) _
      refine XS.istore X4.here hx rfl (hb hby at_39) rfl (l' := #[.val (.int p0), .val (.int p1), .val (.int (own_min p0 p1)), .val (.int (own_max p0 p1)), .val (.int (own_keep (own_max p0 p1))), .val (.int (own_keep (own_min p0 p1))), .val (.int (1 : Int32)), .unset, .unset]) rfl ?_
      show Steps p.tables e below (T4.setTop (mkF m 41 #[.val (.int p0), .val (.int p1), .val (.int (own_min p0 p1)), .val (.int (own_max p0 p1)), .val (.int (own_keep (own_max p0 p1))), .val (.int (own_keep (own_min p0 p1))), .val (.int (1 : Int32)), .unset, .unset] [])) _
      refine XT.sipushV X4.here hx rfl (256 : Int32) (hb hby at_41) (by decide) ?_
      show Steps p.tables e below (T4.setTop (mkF m 44 #[.val (.int p0), .val (.int p1), .val (.int (own_min p0 p1)), .val (.int (own_max p0 p1)), .val (.int (own_keep (own_max p0 p1))), .val (.int (own_keep (own_min p0 p1))), .val (.int (1 : Int32)), .unset, .unset] [(.int (256 : Int32))])) _
      refine st7 _ ?_
      show Steps p.tables e below (T7.setTop (mkF m 47 #[.val (.int p0), .val (.int p1), .val (.int (own_min p0 p1)), .val (.int (own_max p0 p1)), .val (.int (own_keep (own_max p0 p1))), .val (.int (own_keep (own_min p0 p1))), .val (.int (1 : Int32)), .unset, .unset] [(.int (own_keep (256 : Int32)))])) _
      refine XS.istore X7.here hx rfl (hb hby at_47) rfl (l' := #[.val (.int p0), .val (.int p1), .val (.int (own_min p0 p1)), .val (.int (own_max p0 p1)), .val (.int (own_keep (own_max p0 p1))), .val (.int (own_keep (own_min p0 p1))), .val (.int (1 : Int32)), .val (.int (own_keep (256 : Int32))), .unset]) rfl ?_
      show Steps p.tables e below (T7.setTop (mkF m 49 #[.val (.int p0), .val (.int p1), .val (.int (own_min p0 p1)), .val (.int (own_max p0 p1)), .val (.int (own_keep (own_max p0 p1))), .val (.int (own_keep (own_min p0 p1))), .val (.int (1 : Int32)), .val (.int (own_keep (256 : Int32))), .unset] [])) _
      refine XT.sipushV X7.here hx rfl (257 : Int32) (hb hby at_49) (by decide) ?_
      show Steps p.tables e below (T7.setTop (mkF m 52 #[.val (.int p0), .val (.int p1), .val (.int (own_min p0 p1)), .val (.int (own_max p0 p1)), .val (.int (own_keep (own_max p0 p1))), .val (.int (own_keep (own_min p0 p1))), .val (.int (1 : Int32)), .val (.int (own_keep (256 : Int32))), .unset] [(.int (257 : Int32))])) _
      refine st8 _ ?_
      show Steps p.tables e below (T8.setTop (mkF m 55 #[.val (.int p0), .val (.int p1), .val (.int (own_min p0 p1)), .val (.int (own_max p0 p1)), .val (.int (own_keep (own_max p0 p1))), .val (.int (own_keep (own_min p0 p1))), .val (.int (1 : Int32)), .val (.int (own_keep (256 : Int32))), .unset] [(.int (own_keep (257 : Int32)))])) _
      refine XS.istore X8.here hx rfl (hb hby at_55) rfl (l' := #[.val (.int p0), .val (.int p1), .val (.int (own_min p0 p1)), .val (.int (own_max p0 p1)), .val (.int (own_keep (own_max p0 p1))), .val (.int (own_keep (own_min p0 p1))), .val (.int (1 : Int32)), .val (.int (own_keep (256 : Int32))), .val (.int (own_keep (257 : Int32)))]) rfl ?_
      show Steps p.tables e below (T8.setTop (mkF m 57 #[.val (.int p0), .val (.int p1), .val (.int (own_min p0 p1)), .val (.int (own_max p0 p1)), .val (.int (own_keep (own_max p0 p1))), .val (.int (own_keep (own_min p0 p1))), .val (.int (1 : Int32)), .val (.int (own_keep (256 : Int32))), .val (.int (own_keep (257 : Int32)))] [])) _
      refine XS.iload X8.here hx rfl (hb hby at_57) rfl ?_
      show Steps p.tables e below (T8.setTop (mkF m 59 #[.val (.int p0), .val (.int p1), .val (.int (own_min p0 p1)), .val (.int (own_max p0 p1)), .val (.int (own_keep (own_max p0 p1))), .val (.int (own_keep (own_min p0 p1))), .val (.int (1 : Int32)), .val (.int (own_keep (256 : Int32))), .val (.int (own_keep (257 : Int32)))] [(.int (1 : Int32))])) _
      refine XS.ifNo X8.here hx rfl (hb hby at_59) rfl (XT.i0_eq_f (by decide)) ?_
      show Steps p.tables e below (T8.setTop (mkF m 62 #[.val (.int p0), .val (.int p1), .val (.int (own_min p0 p1)), .val (.int (own_max p0 p1)), .val (.int (own_keep (own_max p0 p1))), .val (.int (own_keep (own_min p0 p1))), .val (.int (1 : Int32)), .val (.int (own_keep (256 : Int32))), .val (.int (own_keep (257 : Int32)))] [])) _
      refine XS.iload X8.here hx rfl (hb hby at_62) rfl ?_
      show Steps p.tables e below (T8.setTop (mkF m 64 #[.val (.int p0), .val (.int p1), .val (.int (own_min p0 p1)), .val (.int (own_max p0 p1)), .val (.int (own_keep (own_max p0 p1))), .val (.int (own_keep (own_min p0 p1))), .val (.int (1 : Int32)), .val (.int (own_keep (256 : Int32))), .val (.int (own_keep (257 : Int32)))] [(.int (own_keep (256 : Int32)))])) _
      refine XS.ifNo X8.here hx rfl (hb hby at_64) rfl (XT.i0_eq_f (by decide)) ?_
      show Steps p.tables e below (T8.setTop (mkF m 67 #[.val (.int p0), .val (.int p1), .val (.int (own_min p0 p1)), .val (.int (own_max p0 p1)), .val (.int (own_keep (own_max p0 p1))), .val (.int (own_keep (own_min p0 p1))), .val (.int (1 : Int32)), .val (.int (own_keep (256 : Int32))), .val (.int (own_keep (257 : Int32)))] [])) _
      refine XS.iload X8.here hx rfl (hb hby at_67) rfl ?_
      show Steps p.tables e below (T8.setTop (mkF m 69 #[.val (.int p0), .val (.int p1), .val (.int (own_min p0 p1)), .val (.int (own_max p0 p1)), .val (.int (own_keep (own_max p0 p1))), .val (.int (own_keep (own_min p0 p1))), .val (.int (1 : Int32)), .val (.int (own_keep (256 : Int32))), .val (.int (own_keep (257 : Int32)))] [(.int (own_keep (257 : Int32)))])) _
      refine XS.ifNo X8.here hx rfl (hb hby at_69) rfl (XT.i0_ne_f (by decide)) ?_
      show Steps p.tables e below (T8.setTop (mkF m 72 #[.val (.int p0), .val (.int p1), .val (.int (own_min p0 p1)), .val (.int (own_max p0 p1)), .val (.int (own_keep (own_max p0 p1))), .val (.int (own_keep (own_min p0 p1))), .val (.int (1 : Int32)), .val (.int (own_keep (256 : Int32))), .val (.int (own_keep (257 : Int32)))] [])) _
      refine XT.iconstV X8.here hx rfl (1 : Int32) (hb hby at_72) (by decide) ?_
      show Steps p.tables e below (T8.setTop (mkF m 73 #[.val (.int p0), .val (.int p1), .val (.int (own_min p0 p1)), .val (.int (own_max p0 p1)), .val (.int (own_keep (own_max p0 p1))), .val (.int (own_keep (own_min p0 p1))), .val (.int (1 : Int32)), .val (.int (own_keep (256 : Int32))), .val (.int (own_keep (257 : Int32)))] [(.int (1 : Int32))])) _
      refine XS.goto X8.here hx rfl (pc0 := 73) (pc' := 77) rfl (hb hby at_73) (by decide) (by decide) ?_
      show Steps p.tables e below (T8.setTop (mkF m 77 #[.val (.int p0), .val (.int p1), .val (.int (own_min p0 p1)), .val (.int (own_max p0 p1)), .val (.int (own_keep (own_max p0 p1))), .val (.int (own_keep (own_min p0 p1))), .val (.int (1 : Int32)), .val (.int (own_keep (256 : Int32))), .val (.int (own_keep (257 : Int32)))] [(.int (1 : Int32))])) _
      exact k)
    obtain ⟨fs, hr, hrun, hended, hW, hsame⟩ := X8.leave (v := some (.int (1 : Int32))) (fun h => by rw [Bd.returns] at h; cases h)
    refine ⟨_, _, pre0 _ (S9 _ ?_), hrun, hended, _, _, rfl, ?_, ⟨_, rfl⟩, hW, hsame.mono (by decide) (by decide)⟩
    · exact retN X8 hx (t := .boolean) Bd.returns (by simp) (hb hby at_77) hr
    · show Qrm0 Z p0 p1 h0 n0 _ T8.heap _
      rw [e8]
      exact ⟨rfl, N8⟩
  · obtain ⟨_, _, ⟨T10, L10, k10, n10⟩, -, X10, ⟨Lc10, hQ10, l10, y10, z10⟩, st10⟩ := Jvm.LawKit.callS X4 hx (y := (⟨"com/example/prolong/prolong/ctmc/ProductChain", "keepsMoves", "(I)Z"⟩ : MethodName)) hown (mvT hZ (hw _ (List.mem_of_getElem? (i := 7) rfl))) (mvT hZ (hw _ (List.mem_of_getElem? (i := 8) rfl))) (mvT hZ (hw _ (List.mem_of_getElem? (i := 9) rfl))) (mvT hZ (hw _ (List.mem_of_getElem? (i := 10) rfl))) (by decide) (backOf (W := 0) (rmK l Z av0 hw [] (256 : Int32) h0 n0 Z0) hZ (hw _ (List.mem_of_getElem? (i := 10) rfl)) (hw _ (List.mem_of_getElem? (i := 9) rfl)) (by decide) (by decide)) (g := (mkF m 44 #[.val (.int p0), .val (.int p1), .val (.int (own_min p0 p1)), .val (.int (own_max p0 p1)), .val (.int (own_keep (own_max p0 p1))), .val (.int (own_keep (own_min p0 p1))), .val (.int (1 : Int32)), .unset, .unset] [(.int (256 : Int32))])) rfl (by rw [hml]; rfl) (argsL := [(.int (256 : Int32))]) (rest := []) (lenOf pd__I_Z rfl) rfl (by show 2 * 0 + _ ≤ _; exact Nat.le_of_eq rfl) (hb hby at_44) (fun _ _ => ⟨rfl, e4, (by decide : 0 + 0 ≤ _), (by decide : 0 + 0 ≤ _)⟩)
    dsimp only [Pt.U, Pt.locs, Pt.cells, Pt.slots] at X10 l10 y10 z10 st10 hQ10
    subst l10 y10 z10
    obtain ⟨rfl, N10q, hh10⟩ := hQ10
    have N10 := Fr.app N4 N10q
    have e10 : T10.heap = h0 := hh10
    obtain ⟨_, _, ⟨T11, L11, k11, n11⟩, -, X11, ⟨Lc11, hQ11, l11, y11, z11⟩, st11⟩ := Jvm.LawKit.callS X10 hx (y := (⟨"com/example/prolong/prolong/ctmc/ProductChain", "keepsMoves", "(I)Z"⟩ : MethodName)) hown (mvT hZ (hw _ (List.mem_of_getElem? (i := 7) rfl))) (mvT hZ (hw _ (List.mem_of_getElem? (i := 8) rfl))) (mvT hZ (hw _ (List.mem_of_getElem? (i := 9) rfl))) (mvT hZ (hw _ (List.mem_of_getElem? (i := 10) rfl))) (by decide) (backOf (W := 0) (rmK l Z av0 hw [] (257 : Int32) h0 n0 Z0) hZ (hw _ (List.mem_of_getElem? (i := 10) rfl)) (hw _ (List.mem_of_getElem? (i := 9) rfl)) (by decide) (by decide)) (g := (mkF m 52 #[.val (.int p0), .val (.int p1), .val (.int (own_min p0 p1)), .val (.int (own_max p0 p1)), .val (.int (own_keep (own_max p0 p1))), .val (.int (own_keep (own_min p0 p1))), .val (.int (1 : Int32)), .val (.int (own_keep (256 : Int32))), .unset] [(.int (257 : Int32))])) rfl (by rw [hml]; rfl) (argsL := [(.int (257 : Int32))]) (rest := []) (lenOf pd__I_Z rfl) rfl (by show 2 * 0 + _ ≤ _; exact Nat.le_of_eq rfl) (hb hby at_52) (fun _ _ => ⟨rfl, e10, (by decide : 0 + 0 ≤ _), (by decide : 0 + 0 ≤ _)⟩)
    dsimp only [Pt.U, Pt.locs, Pt.cells, Pt.slots] at X11 l11 y11 z11 st11 hQ11
    subst l11 y11 z11
    obtain ⟨rfl, N11q, hh11⟩ := hQ11
    have N11 := Fr.app N10 N11q
    have e11 : T11.heap = h0 := hh11
    have S12 : ∀ t, Steps p.tables e below (T11.setTop (mkF m 77 #[.val (.int p0), .val (.int p1), .val (.int (own_min p0 p1)), .val (.int (own_max p0 p1)), .val (.int (own_keep (own_max p0 p1))), .val (.int (own_keep (own_min p0 p1))), .val (.int (1 : Int32)), .val (.int (own_keep (256 : Int32))), .val (.int (own_keep (257 : Int32)))] [(.int (1 : Int32))])) t → Steps p.tables e below (s₁.setTop (mkF m 0 #[.val (.int p0), .val (.int p1), .unset, .unset, .unset, .unset, .unset, .unset, .unset] [])) t := fun t k => S5 t (by
      show Steps p.tables e below (T4.setTop (mkF m 26 #[.val (.int p0), .val (.int p1), .val (.int (own_min p0 p1)), .val (.int (own_max p0 p1)), .val (.int (own_keep (own_max p0 p1))), .val (.int (own_keep (own_min p0 p1))), .unset, .unset, .unset] [(.int (own_keep (own_max p0 p1)))])) _
      refine XS.ifNo X4.here hx rfl (hb hby at_26) rfl (XT.i0_eq_f hc26_6) ?_
      show Steps p.tables e below (T4.setTop (mkF m 29 #[.val (.int p0), .val (.int p1), .val (.int (own_min p0 p1)), .val (.int (own_max p0 p1)), .val (.int (own_keep (own_max p0 p1))), .val (.int (own_keep (own_min p0 p1))), .unset, .unset, .unset] [])) _
      refine XS.iload X4.here hx rfl (hb hby at_29) rfl ?_
      show Steps p.tables e below (T4.setTop (mkF m 31 #[.val (.int p0), .val (.int p1), .val (.int (own_min p0 p1)), .val (.int (own_max p0 p1)), .val (.int (own_keep (own_max p0 p1))), .val (.int (own_keep (own_min p0 p1))), .unset, .unset, .unset] [(.int (own_keep (own_min p0 p1)))])) _
      refine XS.ifNo X4.here hx rfl (hb hby at_31) rfl (XT.i0_eq_f (own_mono p0 p1 hc26_6)) ?_
      show Steps p.tables e below (T4.setTop (mkF m 34 #[.val (.int p0), .val (.int p1), .val (.int (own_min p0 p1)), .val (.int (own_max p0 p1)), .val (.int (own_keep (own_max p0 p1))), .val (.int (own_keep (own_min p0 p1))), .unset, .unset, .unset] [])) _
      refine XT.iconstV X4.here hx rfl (1 : Int32) (hb hby at_34) (by decide) ?_
      show Steps p.tables e below (T4.setTop (mkF m 35 #[.val (.int p0), .val (.int p1), .val (.int (own_min p0 p1)), .val (.int (own_max p0 p1)), .val (.int (own_keep (own_max p0 p1))), .val (.int (own_keep (own_min p0 p1))), .unset, .unset, .unset] [(.int (1 : Int32))])) _
      refine XS.goto X4.here hx rfl (pc0 := 35) (pc' := 39) rfl (hb hby at_35) (by decide) (by decide) ?_
      show Steps p.tables e below (T4.setTop (mkF m 39 #[.val (.int p0), .val (.int p1), .val (.int (own_min p0 p1)), .val (.int (own_max p0 p1)), .val (.int (own_keep (own_max p0 p1))), .val (.int (own_keep (own_min p0 p1))), .unset, .unset, .unset] [(.int (1 : Int32))])) _
      refine XS.istore X4.here hx rfl (hb hby at_39) rfl (l' := #[.val (.int p0), .val (.int p1), .val (.int (own_min p0 p1)), .val (.int (own_max p0 p1)), .val (.int (own_keep (own_max p0 p1))), .val (.int (own_keep (own_min p0 p1))), .val (.int (1 : Int32)), .unset, .unset]) rfl ?_
      show Steps p.tables e below (T4.setTop (mkF m 41 #[.val (.int p0), .val (.int p1), .val (.int (own_min p0 p1)), .val (.int (own_max p0 p1)), .val (.int (own_keep (own_max p0 p1))), .val (.int (own_keep (own_min p0 p1))), .val (.int (1 : Int32)), .unset, .unset] [])) _
      refine XT.sipushV X4.here hx rfl (256 : Int32) (hb hby at_41) (by decide) ?_
      show Steps p.tables e below (T4.setTop (mkF m 44 #[.val (.int p0), .val (.int p1), .val (.int (own_min p0 p1)), .val (.int (own_max p0 p1)), .val (.int (own_keep (own_max p0 p1))), .val (.int (own_keep (own_min p0 p1))), .val (.int (1 : Int32)), .unset, .unset] [(.int (256 : Int32))])) _
      refine st10 _ ?_
      show Steps p.tables e below (T10.setTop (mkF m 47 #[.val (.int p0), .val (.int p1), .val (.int (own_min p0 p1)), .val (.int (own_max p0 p1)), .val (.int (own_keep (own_max p0 p1))), .val (.int (own_keep (own_min p0 p1))), .val (.int (1 : Int32)), .unset, .unset] [(.int (own_keep (256 : Int32)))])) _
      refine XS.istore X10.here hx rfl (hb hby at_47) rfl (l' := #[.val (.int p0), .val (.int p1), .val (.int (own_min p0 p1)), .val (.int (own_max p0 p1)), .val (.int (own_keep (own_max p0 p1))), .val (.int (own_keep (own_min p0 p1))), .val (.int (1 : Int32)), .val (.int (own_keep (256 : Int32))), .unset]) rfl ?_
      show Steps p.tables e below (T10.setTop (mkF m 49 #[.val (.int p0), .val (.int p1), .val (.int (own_min p0 p1)), .val (.int (own_max p0 p1)), .val (.int (own_keep (own_max p0 p1))), .val (.int (own_keep (own_min p0 p1))), .val (.int (1 : Int32)), .val (.int (own_keep (256 : Int32))), .unset] [])) _
      refine XT.sipushV X10.here hx rfl (257 : Int32) (hb hby at_49) (by decide) ?_
      show Steps p.tables e below (T10.setTop (mkF m 52 #[.val (.int p0), .val (.int p1), .val (.int (own_min p0 p1)), .val (.int (own_max p0 p1)), .val (.int (own_keep (own_max p0 p1))), .val (.int (own_keep (own_min p0 p1))), .val (.int (1 : Int32)), .val (.int (own_keep (256 : Int32))), .unset] [(.int (257 : Int32))])) _
      refine st11 _ ?_
      show Steps p.tables e below (T11.setTop (mkF m 55 #[.val (.int p0), .val (.int p1), .val (.int (own_min p0 p1)), .val (.int (own_max p0 p1)), .val (.int (own_keep (own_max p0 p1))), .val (.int (own_keep (own_min p0 p1))), .val (.int (1 : Int32)), .val (.int (own_keep (256 : Int32))), .unset] [(.int (own_keep (257 : Int32)))])) _
      refine XS.istore X11.here hx rfl (hb hby at_55) rfl (l' := #[.val (.int p0), .val (.int p1), .val (.int (own_min p0 p1)), .val (.int (own_max p0 p1)), .val (.int (own_keep (own_max p0 p1))), .val (.int (own_keep (own_min p0 p1))), .val (.int (1 : Int32)), .val (.int (own_keep (256 : Int32))), .val (.int (own_keep (257 : Int32)))]) rfl ?_
      show Steps p.tables e below (T11.setTop (mkF m 57 #[.val (.int p0), .val (.int p1), .val (.int (own_min p0 p1)), .val (.int (own_max p0 p1)), .val (.int (own_keep (own_max p0 p1))), .val (.int (own_keep (own_min p0 p1))), .val (.int (1 : Int32)), .val (.int (own_keep (256 : Int32))), .val (.int (own_keep (257 : Int32)))] [])) _
      refine XS.iload X11.here hx rfl (hb hby at_57) rfl ?_
      show Steps p.tables e below (T11.setTop (mkF m 59 #[.val (.int p0), .val (.int p1), .val (.int (own_min p0 p1)), .val (.int (own_max p0 p1)), .val (.int (own_keep (own_max p0 p1))), .val (.int (own_keep (own_min p0 p1))), .val (.int (1 : Int32)), .val (.int (own_keep (256 : Int32))), .val (.int (own_keep (257 : Int32)))] [(.int (1 : Int32))])) _
      refine XS.ifNo X11.here hx rfl (hb hby at_59) rfl (XT.i0_eq_f (by decide)) ?_
      show Steps p.tables e below (T11.setTop (mkF m 62 #[.val (.int p0), .val (.int p1), .val (.int (own_min p0 p1)), .val (.int (own_max p0 p1)), .val (.int (own_keep (own_max p0 p1))), .val (.int (own_keep (own_min p0 p1))), .val (.int (1 : Int32)), .val (.int (own_keep (256 : Int32))), .val (.int (own_keep (257 : Int32)))] [])) _
      refine XS.iload X11.here hx rfl (hb hby at_62) rfl ?_
      show Steps p.tables e below (T11.setTop (mkF m 64 #[.val (.int p0), .val (.int p1), .val (.int (own_min p0 p1)), .val (.int (own_max p0 p1)), .val (.int (own_keep (own_max p0 p1))), .val (.int (own_keep (own_min p0 p1))), .val (.int (1 : Int32)), .val (.int (own_keep (256 : Int32))), .val (.int (own_keep (257 : Int32)))] [(.int (own_keep (256 : Int32)))])) _
      refine XS.ifNo X11.here hx rfl (hb hby at_64) rfl (XT.i0_eq_f (by decide)) ?_
      show Steps p.tables e below (T11.setTop (mkF m 67 #[.val (.int p0), .val (.int p1), .val (.int (own_min p0 p1)), .val (.int (own_max p0 p1)), .val (.int (own_keep (own_max p0 p1))), .val (.int (own_keep (own_min p0 p1))), .val (.int (1 : Int32)), .val (.int (own_keep (256 : Int32))), .val (.int (own_keep (257 : Int32)))] [])) _
      refine XS.iload X11.here hx rfl (hb hby at_67) rfl ?_
      show Steps p.tables e below (T11.setTop (mkF m 69 #[.val (.int p0), .val (.int p1), .val (.int (own_min p0 p1)), .val (.int (own_max p0 p1)), .val (.int (own_keep (own_max p0 p1))), .val (.int (own_keep (own_min p0 p1))), .val (.int (1 : Int32)), .val (.int (own_keep (256 : Int32))), .val (.int (own_keep (257 : Int32)))] [(.int (own_keep (257 : Int32)))])) _
      refine XS.ifNo X11.here hx rfl (hb hby at_69) rfl (XT.i0_ne_f (by decide)) ?_
      show Steps p.tables e below (T11.setTop (mkF m 72 #[.val (.int p0), .val (.int p1), .val (.int (own_min p0 p1)), .val (.int (own_max p0 p1)), .val (.int (own_keep (own_max p0 p1))), .val (.int (own_keep (own_min p0 p1))), .val (.int (1 : Int32)), .val (.int (own_keep (256 : Int32))), .val (.int (own_keep (257 : Int32)))] [])) _
      refine XT.iconstV X11.here hx rfl (1 : Int32) (hb hby at_72) (by decide) ?_
      show Steps p.tables e below (T11.setTop (mkF m 73 #[.val (.int p0), .val (.int p1), .val (.int (own_min p0 p1)), .val (.int (own_max p0 p1)), .val (.int (own_keep (own_max p0 p1))), .val (.int (own_keep (own_min p0 p1))), .val (.int (1 : Int32)), .val (.int (own_keep (256 : Int32))), .val (.int (own_keep (257 : Int32)))] [(.int (1 : Int32))])) _
      refine XS.goto X11.here hx rfl (pc0 := 73) (pc' := 77) rfl (hb hby at_73) (by decide) (by decide) ?_
      show Steps p.tables e below (T11.setTop (mkF m 77 #[.val (.int p0), .val (.int p1), .val (.int (own_min p0 p1)), .val (.int (own_max p0 p1)), .val (.int (own_keep (own_max p0 p1))), .val (.int (own_keep (own_min p0 p1))), .val (.int (1 : Int32)), .val (.int (own_keep (256 : Int32))), .val (.int (own_keep (257 : Int32)))] [(.int (1 : Int32))])) _
      exact k)
    obtain ⟨fs, hr, hrun, hended, hW, hsame⟩ := X11.leave (v := some (.int (1 : Int32))) (fun h => by rw [Bd.returns] at h; cases h)
    refine ⟨_, _, pre0 _ (S12 _ ?_), hrun, hended, _, _, rfl, ?_, ⟨_, rfl⟩, hW, hsame.mono (by decide) (by decide)⟩
    · exact retN X11 hx (t := .boolean) Bd.returns (by simp) (hb hby at_77) hr
    · show Qrm0 Z p0 p1 h0 n0 _ T11.heap _
      rw [e11]
      exact ⟨rfl, N11⟩
set_option maxRecDepth 65536 in
set_option maxHeartbeats 40000000 in
theorem comes_1 {Post : Tables → Env → Array Value → State → Outcome → State → Prop} (hpost : ∀ tb e args s v u, (limb_1_1.after args s (.returned v) u = true ∧ limb_1_2.after args s (.returned v) u = true ∧ True) → FrameEnd s (.returned v) u (Jvm.fieldLocs frame_1_writes args s ++ Jvm.arrayLocs frame_1_arrays args s ++ Jvm.staticLocs frame_1_statics s) 0 0 → Post tb e args s (.returned v) u) :
    ArmFor flags0 classFile x code maxLocals ret World_1 tables_1 room_1 Calls_1 rest_1 Pre_1 Post := by
  intro l hfl _ _ p e ha hc hk s m args below hf hA hF happ hP
  obtain ⟨hcalls, hrest, hpre⟩ := hP
  obtain ⟨-, -, -, hnamed, -, -, -, hat⟩ := (Spec.applies_iff hf).mp happ
  obtain ⟨hg, hn⟩ := and_e (Cond.before_iff.mp (show (Jvm.Cond.and given_1 narrow_1).before args s = true from hpre))
  obtain ⟨g0, r0⟩ := and_e hg
  obtain ⟨g1, r1⟩ := and_e r0
  obtain ⟨w0, w1, rfl⟩ : ∃ w0 w1 : Value, args = #[w0, w1] := by
    have hs : args.size = 2 := by simpa [Cond.value, given_1] using g0
    obtain ⟨L⟩ := args
    match L, hs with
    | [w0, w1], _ => exact ⟨w0, w1, rfl⟩
  have hw := fun d (hd : d ∈ tables_1) => atoms_spec (ws := Jvm.Cond.code x code maxLocals ret :: tables_1) hat d (List.mem_cons_of_mem _ hd)
  have hfit : Fit s := fun {y c} hc i hi => by
    obtain ⟨ha, rfl⟩ := Array.getElem?_eq_some_iff.mp hc
    have q := List.all_eq_true.mp ((Array.all_eq_true_iff_forall_mem.mp hF) _ (Array.getElem_mem ha)) i (List.mem_range.mpr hi)
    simpa [Array.getElem?_eq_getElem hi] using q
  obtain ⟨i0, ei0⟩ := is_v g1
  obtain rfl : w0 = (.int i0) := Option.some.inj ei0
  obtain ⟨i1, ei1⟩ := is_v r1
  obtain rfl : w1 = (.int i1) := Option.some.inj ei1
  obtain ⟨n, o, h1, h2, h3, _, L, rfl, ⟨rfl, N⟩, hq⟩ := rm0 l s _ hw tables_1 i0 i1 s.heap s.heap.size (Nat.le_refl _)  p e ha hc hk s m _ below hf ((Spec.applies_iff_loose hf).mp happ).1 ⟨rfl, State.Warmed39.refl s, rfl⟩ trivial
  refine ⟨n, _, h1, h2, h3, hpost _ _ _ _ _ _ ⟨Cond.after_iff.mpr rfl, Cond.after_iff.mpr (eq_i res_at (Term.int_eval (1)) rfl), trivial⟩ ⟨hq.1, hq.2.1, (hq.2.2.sift fun y hy => Or.inr (N y hy)).mono (by decide) (by decide)⟩⟩
theorem main_1_1 : Claimed_1_1 := comes_1 fun _ _ _ _ _ _ h hF => ⟨h.1, hF⟩
theorem main_1_2 : Claimed_1_2 := comes_1 fun _ _ _ _ _ _ h hF => ⟨h.2.1, hF⟩
end Jvm.Pilot.@@N@@
namespace Jvm.Pilot.@@N@@
open Jvm Jvm.ClassFile Sem Op Lib Jvm.Free Jvm.Stand Jvm.Pilot.@@N@@.Jvm.D
/-! MADE BY PROGRAM (witnessworld.py) out of the Statement's table words and the real class files: 10 classes; the members and pool entries that the words name. The judged class is class 1, her method 1. -/
namespace start1
open Jvm.ClassFile
def u (s : String) : CpInfo := .utf8 (stringToUtf16 s)
/-- a pool by its gaps: so many unusable entries, then the entry; so many at the end -/
def gap : Nat → List CpInfo → List CpInfo
  | 0, r => r
  | n + 1, r => .unusable :: gap n r
def poolList (es : List (Nat × CpInfo)) (last : Nat) : List CpInfo := es.foldr (fun e r => gap e.1 (e.2 :: r)) (gap last [])
def pool (es : List (Nat × CpInfo)) (last : Nat) : Array CpInfo := ⟨poolList es last⟩
def fileOf (pool : Array CpInfo) (this : Nat) (attrs : Array Attribute := #[]) (ms : Array MethodInfo := #[]) (fl : Nat := 33) (sup : Nat := 0) (ifs : Array Nat := #[]) (fds : Array FieldInfo := #[]) : ClassFile where
  minorVersion := 0
  majorVersion := 65
  constantPool := pool
  accessFlags := fl
  thisClass := this
  superClass := sup
  interfaces := ifs
  fields := fds
  methods := ms
  attributes := attrs
def plain (name : String) (sup : Option ClassId) : Class where
  name := name
  kind := .ordinary
  loader := none
  accessFlags := 33
  super := sup
  interfaces := #[]
  cf := none
  fields := #[]
  methods := #[]
  instanceTypes := #[]
  staticTypes := #[]
  resolved := #[]
  callSites := []
  init := .initialized
  statics := none
  mirror := none

def pool0 : Array CpInfo := pool [(5, u "<init>"), (0, u "()V"), (1, .class_ 10), (1, u "java/lang/Object")] 113

def k0m0 : Method := { name := "<init>", desc := "()V", sig := { parameters := [], returnType := none }, accessFlags := 1, code := none }
/-- java/lang/Object -/
def k0 : Class := { plain "java/lang/Object" none with
  accessFlags := 33
  interfaces := #[]
  cf := some (fileOf pool0 8 #[] #[{ accessFlags := 1, nameIndex := 5, descriptorIndex := 6, attributes := #[] }] 33 0 #[] #[])
  fields := #[]
  methods := #[k0m0]
  instanceTypes := #[]
  staticTypes := #[]
  resolved := Array.replicate 124 none
  statics := none }

def pool1 : Array CpInfo := pool [(2, .class_ 4), (1, u "java/lang/Object"), (0, u "<init>"), (0, u "()V"), (0, .methodref 8 9), (0, .class_ 10), (0, .nameAndType 11 12), (0, u "java/lang/Math"), (0, u "min"), (0, u "(II)I"), (0, .methodref 8 14), (0, .nameAndType 15 12), (0, u "max"), (0, .methodref 17 18), (0, .class_ 19), (0, .nameAndType 20 21), (0, u "com/example/prolong/prolong/ctmc/ProductChain"), (0, u "keepsMoves"), (0, u "(I)Z"), (0, .class_ 23), (0, u "com/example/prolong/prolong/ctmc/ProductChainKeepsMovesPinLaw"), (2, u "law"), (0, u "(II)Z")] 3

def k1m0 : Method := { name := "<init>", desc := "()V", sig := { parameters := [], returnType := none }, accessFlags := 2, code := none }
def k1c1 : Code := { maxStack := 2, maxLocals := 9, code := code, exceptionTable := #[], attributes := #[] }
def k1m1 : Method := { name := "law", desc := "(II)Z", sig := { parameters := [.int, .int], returnType := some .boolean }, accessFlags := 9, code := some k1c1 }
/-- com/example/prolong/prolong/ctmc/ProductChainKeepsMovesPinLaw -/
def k1 : Class := { plain "com/example/prolong/prolong/ctmc/ProductChainKeepsMovesPinLaw" (some 0) with
  accessFlags := 49
  interfaces := #[]
  cf := some (fileOf pool1 22 #[] #[{ accessFlags := 2, nameIndex := 5, descriptorIndex := 6, attributes := #[] }, { accessFlags := 9, nameIndex := 26, descriptorIndex := 27, attributes := #[] }] 49 2 #[] #[])
  fields := #[]
  methods := #[k1m0, k1m1]
  instanceTypes := #[]
  staticTypes := #[]
  resolved := Array.replicate 31 none
  statics := none }

def pool2 : Array CpInfo := pool [(1, .class_ 2), (0, u "java/lang/Math"), (1, .class_ 6), (1, u "java/lang/Object"), (0, u "<init>"), (0, u "()V"), (89, .class_ 100), (1, u "java/lang/Math$RandomNumberGeneratorHolder"), (71, u "negativeZeroFloatBits"), (0, u "J"), (2, u "negativeZeroDoubleBits"), (21, u "max"), (2, u "min"), (43, u "$assertionsDisabled"), (0, u "Z"), (88, u "(II)I"), (2, u "twoToTheDoubleScaleDown"), (0, u "D"), (4, u "twoToTheDoubleScaleUp"), (9, u "E"), (3, u "PI"), (2, u "TAU"), (2, u "DEGREES_TO_RADIANS"), (0, u "RADIANS_TO_DEGREES")] 94

def k2m0 : Method := { name := "<init>", desc := "()V", sig := { parameters := [], returnType := none }, accessFlags := 2, code := none }
def k2c1 : Code := { maxStack := 2, maxLocals := 2, code := jdk_29_method_65_code, exceptionTable := #[], attributes := #[] }
def k2m1 : Method := { name := "max", desc := "(II)I", sig := { parameters := [.int, .int], returnType := some .int }, accessFlags := 9, code := some k2c1 }
def k2c2 : Code := { maxStack := 2, maxLocals := 2, code := jdk_29_method_69_code, exceptionTable := #[], attributes := #[] }
def k2m2 : Method := { name := "min", desc := "(II)I", sig := { parameters := [.int, .int], returnType := some .int }, accessFlags := 9, code := some k2c2 }
/-- java/lang/Math -/
def k2 : Class := { plain "java/lang/Math" (some 0) with
  accessFlags := 49
  interfaces := #[]
  cf := some (fileOf pool2 1 #[.nestMembers #[98]] #[{ accessFlags := 2, nameIndex := 7, descriptorIndex := 8, attributes := #[] }, { accessFlags := 9, nameIndex := 198, descriptorIndex := 335, attributes := #[] }, { accessFlags := 9, nameIndex := 201, descriptorIndex := 335, attributes := #[] }] 49 4 #[] #[{ accessFlags := 25, nameIndex := 354, descriptorIndex := 339, attributes := #[] }, { accessFlags := 25, nameIndex := 358, descriptorIndex := 339, attributes := #[] }, { accessFlags := 25, nameIndex := 361, descriptorIndex := 339, attributes := #[] }, { accessFlags := 26, nameIndex := 364, descriptorIndex := 339, attributes := #[] }, { accessFlags := 26, nameIndex := 365, descriptorIndex := 339, attributes := #[] }, { accessFlags := 26, nameIndex := 172, descriptorIndex := 173, attributes := #[] }, { accessFlags := 26, nameIndex := 176, descriptorIndex := 173, attributes := #[] }, { accessFlags := 8, nameIndex := 344, descriptorIndex := 339, attributes := #[] }, { accessFlags := 8, nameIndex := 338, descriptorIndex := 339, attributes := #[] }, { accessFlags := 4120, nameIndex := 245, descriptorIndex := 246, attributes := #[] }])
  fields := #[{ name := "E", type := .double, accessFlags := 25, slot := 0, constantValue := 0 }, { name := "PI", type := .double, accessFlags := 25, slot := 1, constantValue := 0 }, { name := "TAU", type := .double, accessFlags := 25, slot := 2, constantValue := 0 }, { name := "DEGREES_TO_RADIANS", type := .double, accessFlags := 26, slot := 3, constantValue := 0 }, { name := "RADIANS_TO_DEGREES", type := .double, accessFlags := 26, slot := 4, constantValue := 0 }, { name := "negativeZeroFloatBits", type := .long, accessFlags := 26, slot := 5, constantValue := 0 }, { name := "negativeZeroDoubleBits", type := .long, accessFlags := 26, slot := 6, constantValue := 0 }, { name := "twoToTheDoubleScaleUp", type := .double, accessFlags := 8, slot := 7, constantValue := 0 }, { name := "twoToTheDoubleScaleDown", type := .double, accessFlags := 8, slot := 8, constantValue := 0 }, { name := "$assertionsDisabled", type := .boolean, accessFlags := 4120, slot := 9, constantValue := 0 }]
  methods := #[k2m0, k2m1, k2m2]
  instanceTypes := #[]
  staticTypes := #[.double, .double, .double, .double, .double, .long, .long, .double, .double, .boolean]
  resolved := Array.replicate 460 none
  statics := none }

def pool3 : Array CpInfo := pool [(2, .class_ 4), (1, u "java/lang/Object"), (9, .class_ 16), (1, u "com/example/prolong/prolong/ctmc/ProductChain"), (0, u "parts"), (0, u "Ljava/util/List;"), (6, u "strides"), (0, u "[I"), (8, u "states"), (11, u "I"), (2, u "scratch"), (0, u "[D"), (4, u "solvers"), (0, u "[Lcom/example/prolong/prolong/ctmc/TransientSolver;"), (3, u "sets"), (0, u "[[D"), (5, u "keepsMoves"), (0, u "(I)Z"), (15, .class_ 86), (0, u "com/example/prolong/prolong/ctmc/ProductChain$KeptMove"), (7, .class_ 95), (0, u "com/example/prolong/prolong/ctmc/ProductChain$SolvedMove"), (3, .class_ 100), (0, u "com/example/prolong/prolong/ctmc/ProductChain$Span"), (3, u "KEPT_PART_SIZE"), (14, .class_ 120), (0, u "com/example/prolong/prolong/ctmc/ProductChain$PartMove")] 5

def k3c0 : Code := { maxStack := 2, maxLocals := 1, code := prog_8_method_2_code, exceptionTable := #[], attributes := #[] }
def k3m0 : Method := { name := "keepsMoves", desc := "(I)Z", sig := { parameters := [.int], returnType := some .boolean }, accessFlags := 9, code := some k3c0 }
/-- com/example/prolong/prolong/ctmc/ProductChain -/
def k3 : Class := { plain "com/example/prolong/prolong/ctmc/ProductChain" (some 0) with
  accessFlags := 49
  interfaces := #[]
  cf := some (fileOf pool3 14 #[.nestMembers #[94, 85, 119, 99]] #[{ accessFlags := 9, nameIndex := 68, descriptorIndex := 69, attributes := #[] }] 49 2 #[] #[{ accessFlags := 24, nameIndex := 104, descriptorIndex := 47, attributes := #[] }, { accessFlags := 18, nameIndex := 17, descriptorIndex := 18, attributes := #[] }, { accessFlags := 18, nameIndex := 25, descriptorIndex := 26, attributes := #[] }, { accessFlags := 18, nameIndex := 56, descriptorIndex := 57, attributes := #[] }, { accessFlags := 18, nameIndex := 61, descriptorIndex := 62, attributes := #[] }, { accessFlags := 18, nameIndex := 35, descriptorIndex := 47, attributes := #[] }, { accessFlags := 18, nameIndex := 50, descriptorIndex := 51, attributes := #[] }])
  fields := #[{ name := "KEPT_PART_SIZE", type := .int, accessFlags := 24, slot := 0, constantValue := 0 }, { name := "parts", type := (.object "java/util/List"), accessFlags := 18, slot := 0, constantValue := 0 }, { name := "strides", type := (.array .int), accessFlags := 18, slot := 1, constantValue := 0 }, { name := "solvers", type := (.array (.object "com/example/prolong/prolong/ctmc/TransientSolver")), accessFlags := 18, slot := 2, constantValue := 0 }, { name := "sets", type := (.array (.array .double)), accessFlags := 18, slot := 3, constantValue := 0 }, { name := "states", type := .int, accessFlags := 18, slot := 4, constantValue := 0 }, { name := "scratch", type := (.array .double), accessFlags := 18, slot := 5, constantValue := 0 }]
  methods := #[k3m0]
  instanceTypes := #[(.object "java/util/List"), (.array .int), (.array (.object "com/example/prolong/prolong/ctmc/TransientSolver")), (.array (.array .double)), .int, (.array .double)]
  staticTypes := #[.int]
  resolved := Array.replicate 126 none
  statics := none }

def pool4 : Array CpInfo := pool [(1, u "java/lang/Cloneable"), (0, .class_ 1), (0, u "java/lang/Object"), (0, .class_ 3)] 3

/-- java/lang/Cloneable -/
def k4 : Class := { plain "java/lang/Cloneable" (some 0) with
  accessFlags := 1537
  interfaces := #[]
  cf := some (fileOf pool4 2 #[] #[] 1537 4 #[] #[])
  fields := #[]
  methods := #[]
  instanceTypes := #[]
  staticTypes := #[]
  resolved := Array.replicate 8 none
  statics := none }

def pool5 : Array CpInfo := pool [(1, u "java/io/Serializable"), (0, .class_ 1), (0, u "java/lang/Object"), (0, .class_ 3)] 3

/-- java/io/Serializable -/
def k5 : Class := { plain "java/io/Serializable" (some 0) with
  accessFlags := 1537
  interfaces := #[]
  cf := some (fileOf pool5 2 #[] #[] 1537 4 #[] #[])
  fields := #[]
  methods := #[]
  instanceTypes := #[]
  staticTypes := #[]
  resolved := Array.replicate 8 none
  statics := none }

/-- the primitive byte -/
def k6 : Class := { plain "byte" none with kind := .primitive 'B', accessFlags := 0x411 }
/-- [B -/
def k7 : Class := { plain "[B" (some 0) with kind := .array 6 .byte, interfaces := #[4, 5], accessFlags := 1041 }

/-- the primitive int -/
def k8 : Class := { plain "int" none with kind := .primitive 'I', accessFlags := 0x411 }
/-- [I -/
def k9 : Class := { plain "[I" (some 0) with kind := .array 8 .int, interfaces := #[4, 5], accessFlags := 1041 }

def heap : Heap := #[]
def classes : Array Class := #[k0, k1, k2, k3, k4, k5, k6, k7, k8, k9]
def interned : List (Array UInt16 × Addr) := []
def slotsUsed : Nat := 0
def theMethod : MethodId := ⟨1, 1⟩
def args0 : Array Value := #[.int 5, .int 300]
def aboutOver (below : List Frame) : State where
  vm := { classes := classes, interned := interned.toArray }
  heap := heap
  slotsUsed := slotsUsed
  threads := #[{ frames := .invoking theMethod args0 :: below }]
def below0 : List Frame := [.native { method := ⟨0, 0⟩, args := #[] }]
def about1 : State := aboutOver below0
def p0 : Program := .bare "" "" ""
def e0 : Env := launch0.env 0 0 0
theorem w_frames : about1.frames = Frame.invoking theMethod args0 :: below0 := rfl
set_option maxRecDepth 65536 in
theorem w_args : argsFit about1.vm theMethod args0 = true := by decide +kernel
set_option maxRecDepth 65536 in
theorem w_heap : heapFits about1 = true := by decide +kernel
set_option maxRecDepth 65536 in
theorem w_runnable : about1.curStatus? = some .runnable := by decide +kernel
set_option maxRecDepth 65536 in
theorem w_alone : about1.alone = true := by decide +kernel
set_option maxRecDepth 65536 in
theorem w_named : about1.methodNamed? x = some theMethod := by decide +kernel
set_option maxRecDepth 65536 in
theorem w_hears : about1.hears theMethod below0 = true := by decide +kernel
set_option maxRecDepth 65536 in
theorem w_ripe : about1.ripe theMethod args0 below0 = true := by decide +kernel
theorem w_running : about1.status = .running := rfl
set_option maxRecDepth 65536 in
theorem w_room : about1.hasRoom e0.platform room_1 = true :=
  launch0.hasRoom_least _ room_1 (by decide +kernel) (by decide +kernel) (by decide +kernel) (by decide +kernel) (by decide +kernel) (by decide +kernel)
theorem allAtoms_all (ts : List Jvm.Cond) (a : Array Jvm.Value) (st : Jvm.State) : (allAtoms ts).before a st = ts.all (fun c => c.before a st) := by
  induction ts with
  | nil => rfl
  | cons c t ih =>
    show (Jvm.Cond.and c (allAtoms t)).before a st = _
    rw [Jvm.Cond.before_and, ih, List.all_cons]
def words1 : List Jvm.Cond := Jvm.Cond.code x code maxLocals ret :: tables_1
/-- a 'code' word, met by the world's own term for the bytes: nothing is compared byte by byte -/
theorem code_word {y : MethodName} {bytes : ByteArray} {mx : Nat} {rt : Option FieldType} {a : Array Value} {s : State} {m : MethodId} {meth : Method} {c : Code} (h1 : s.methodNamed? y = some m) (h2 : s.vm.method? m = some meth) (h3 : meth.code = some c) (h4 : c.code = bytes)
    (h5 : (c.maxLocals == mx && c.exceptionTable.isEmpty && decide (c.maxStack ≤ mostOperands) && decide (meth.sig.returnType = rt) && !meth.locks && decide (parseMethodDescriptor y.desc = some meth.sig)) = true) : (Jvm.Cond.code y bytes mx rt).before a s = true := by
  simp only [Bool.and_eq_true, beq_iff_eq, Bool.not_eq_true', decide_eq_true_eq] at h5
  obtain ⟨⟨⟨⟨⟨g1, g2⟩, g3⟩, g4⟩, g5⟩, g6⟩ := h5
  simp [Cond.before, Cond.holds, Cond.value, h1, h2, h3, h4, g1, g2, g3, g4, g5, g6]
def isCode : Jvm.Cond → Bool
  | .code _ _ _ _ => true
  | _ => false
theorem all_split {L : List Jvm.Cond} {P : Jvm.Cond → Bool} (h1 : L.all (fun c => isCode c || P c) = true) (h2 : ∀ c ∈ L.filter isCode, P c = true) : L.all P = true := by
  refine List.all_eq_true.mpr fun c hc => ?_
  have h := List.all_eq_true.mp h1 c hc
  rcases Bool.eq_false_or_eq_true (isCode c) with hi | hi
  · exact h2 c (List.mem_filter.mpr ⟨hc, hi⟩)
  · simpa [hi] using h
set_option maxRecDepth 65536 in
theorem w_c0 : (Jvm.Cond.code x code maxLocals ret).before args0 about1 = true := code_word (m := ⟨1, 1⟩) (meth := k1m1) (c := k1c1) (by decide +kernel) rfl rfl rfl (by decide +kernel)
set_option maxRecDepth 65536 in
theorem w_c1 : (Jvm.Cond.code ({ cls := "java/lang/Math", name := "min", desc := "(II)I" } : Jvm.MethodName) jdk_29_method_69_code (2 : Nat) (Option.some Jvm.ClassFile.FieldType.int)).before args0 about1 = true := code_word (m := ⟨2, 2⟩) (meth := k2m2) (c := k2c2) (by decide +kernel) rfl rfl rfl (by decide +kernel)
set_option maxRecDepth 65536 in
theorem w_c2 : (Jvm.Cond.code ({ cls := "java/lang/Math", name := "max", desc := "(II)I" } : Jvm.MethodName) jdk_29_method_65_code (2 : Nat) (Option.some Jvm.ClassFile.FieldType.int)).before args0 about1 = true := code_word (m := ⟨2, 1⟩) (meth := k2m1) (c := k2c1) (by decide +kernel) rfl rfl rfl (by decide +kernel)
set_option maxRecDepth 65536 in
theorem w_c3 : (Jvm.Cond.code ({ cls := "com/example/prolong/prolong/ctmc/ProductChain", name := "keepsMoves", desc := "(I)Z" } : Jvm.MethodName) prog_8_method_2_code (1 : Nat) (Option.some Jvm.ClassFile.FieldType.boolean)).before args0 about1 = true := code_word (m := ⟨3, 0⟩) (meth := k3m0) (c := k3c0) (by decide +kernel) rfl rfl rfl (by decide +kernel)
def codes1 : List Jvm.Cond := [Jvm.Cond.code x code maxLocals ret, Jvm.Cond.code ({ cls := "java/lang/Math", name := "min", desc := "(II)I" } : Jvm.MethodName) jdk_29_method_69_code (2 : Nat) (Option.some Jvm.ClassFile.FieldType.int), Jvm.Cond.code ({ cls := "java/lang/Math", name := "max", desc := "(II)I" } : Jvm.MethodName) jdk_29_method_65_code (2 : Nat) (Option.some Jvm.ClassFile.FieldType.int), Jvm.Cond.code ({ cls := "com/example/prolong/prolong/ctmc/ProductChain", name := "keepsMoves", desc := "(I)Z" } : Jvm.MethodName) prog_8_method_2_code (1 : Nat) (Option.some Jvm.ClassFile.FieldType.boolean)]
set_option maxRecDepth 65536 in
theorem codes_eq : words1.filter isCode = codes1 := rfl
theorem w_codes : ∀ c ∈ words1.filter isCode, c.before args0 about1 = true := by
  rw [codes_eq]
  intro c hc
  simp only [codes1, List.mem_cons, List.not_mem_nil, or_false] at hc
  rcases hc with rfl | rfl | rfl | rfl
  · exact w_c0
  · exact w_c1
  · exact w_c2
  · exact w_c3
set_option maxRecDepth 65536 in
theorem w_t1 : words1.all (fun c => isCode c || c.before args0 about1) = true := by decide +kernel
theorem w_tables : (allAtoms (Jvm.Cond.code x code maxLocals ret :: tables_1)).before args0 about1 = true := by
  rw [allAtoms_all]
  show words1.all (fun c => c.before args0 about1) = true
  refine all_split ?_ w_codes
  rw [w_t1]
set_option maxRecDepth 65536 in
theorem w_case : (Jvm.Cond.and given_1 narrow_1).before args0 about1 = true := by decide +kernel
theorem w_applies : (headSpec (Jvm.Cond.code x code maxLocals ret :: tables_1) room_1).applies x e0.platform about1 = true :=
  (Spec.applies_iff w_frames).mpr ⟨w_running, w_runnable, w_alone, w_named, w_hears, w_ripe, w_room, w_tables⟩
theorem atStart : AtStart classFile x code maxLocals ret World_1 tables_1 room_1 Calls_1 rest_1 Pre_1 launch0 p0 e0 about1 theMethod args0 below0 :=
  ⟨lists_1, trivial, launch0.admits_env _ _ _, launch0.least_env, fairChoices_fair.cas, fairChoices_fair.clock, w_frames, w_args, w_heap, w_applies, trivial, trivial, w_case⟩
end start1
theorem witness_1 : WitnessClaimed_1 := ⟨start1.p0, start1.e0, start1.about1, start1.theMethod, start1.args0, start1.below0, start1.atStart⟩
end Jvm.Pilot.@@N@@
