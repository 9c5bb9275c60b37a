import JvmDerived
import JvmDerived.Pilot.@@N@@Statement
import JvmDerived.Pilot.@@N@@Code
set_option linter.unusedVariables false
set_option linter.unusedSimpArgs false

namespace Jvm.RoadKit
open Sem ClassFile Op Lib Jvm.Stand Jvm.Free Jvm.LawKit
section New
variable {p : Program} {l : Launch} {e : Env} {R : Room} {s : State} {m : MethodId} {args : Array Value} {below : List Frame} {meth : Method} {c : Code} {T : State} {locs : List Loc} {cells slots : Nat}
theorem retI (X : Stand p l e R s m args below meth c T locs cells slots) (hx : p.tables.exec = Jvm.exec) {pc : Nat} {Ls : Array Slot} {z : Int32} {rest : List Value} (hret : meth.sig.returnType = some .int) (hd : decode c.code pc = .ok (.ireturn, 1)) {fs : List Frame}
    (hl : ∀ (f : JFrame) (acts : List Action), f.method = m → f.locked = none → f.entered = [] → (doReturn e (T.setTop f) acts (some (.int z))).1 = T.setFrames fs) : Steps p.tables e below (T.setTop (mkF m pc Ls (.int z :: rest))) (T.setFrames fs) := by
  have hm' : T.vm.method? m = some meth := X.method'
  have hn : narrow .int (.int z) = .int z := rfl
  show Steps p.tables e below (T.setTop { method := m, pc := pc, locals := Ls, stack := _ :: rest, locked := none }) _
  jvm_step X.here [X.here.top, hx, hd, hm', hret, hn]
  first | (intro acts; rw [hl _ acts rfl rfl rfl]) | rw [hl _ _ rfl rfl rfl]
  exact Steps.refl _
end New
end Jvm.RoadKit

namespace Jvm.Pilot.@@N@@
open Jvm Jvm.ClassFile Sem Op Lib Jvm.Free Jvm.Stand Jvm.LawKit Jvm.RoadKit Bundle Jvm.Pilot.@@N@@.Jvm.D
def own_bl (c : Int32) : Int32 := if c < 32 then 1 else if c < 127 then (if c = 8232 then 1 else if c = 8233 then 1 else 0) else if 159 < c then (if c = 8232 then 1 else if c = 8233 then 1 else 0) else 1
def own_ex (c : Int32) : Int32 := if XT.ushr c 8 = 0 then (if 31 < (c &&& 255) then (if (c &&& 255) = 127 then 1 else if (c &&& 255) < 128 then 0 else if 159 < (c &&& 255) then 0 else 1) else 1) else if XT.ushr c 8 = 32 then (if (c &&& 255) = 40 then 1 else if (c &&& 255) = 41 then 1 else 0) else 0
def own_c (x : Int32) : Int32 := (x &&& 65535).toUInt32.toUInt16.toUInt32.toInt32
theorem own_cx (x : Int32) : own_c x = x &&& 65535 := by
  unfold own_c
  apply Int32.toInt_inj.mp
  have h := c_i2c (x &&& 65535)
  have h2 : (x &&& 65535).toInt = x.toInt % (2 ^ 16 : Nat) := c_mask x 65535 16 (by decide) (by decide)
  omega
theorem own_key (x : Int32) : own_bl (own_c x) = own_ex (x &&& 65535) := by
  rw [own_cx]
  have h2 : (x &&& 65535).toInt = x.toInt % (2 ^ 16 : Nat) := c_mask x 65535 16 (by decide) (by decide)
  generalize hc : x &&& 65535 = c at *
  have h3 : (c &&& 255).toInt = c.toInt % (2 ^ 8 : Nat) := c_mask c 255 8 (by decide) (by decide)
  have h4 : (XT.ushr c 8).toInt = (c.toInt % 4294967296) / (2 ^ 8 : Nat) := c_iushr c 8 8 (by decide) (by decide)
  unfold own_bl own_ex
  simp only [Int32.lt_iff_toInt_lt, ← Int32.toInt_inj]
  rw [h3, h4]
  simp only [show (32 : Int32).toInt = 32 from rfl, show (127 : Int32).toInt = 127 from rfl, show (8232 : Int32).toInt = 8232 from rfl, show (8233 : Int32).toInt = 8233 from rfl, show (159 : Int32).toInt = 159 from rfl, show (0 : Int32).toInt = 0 from rfl, show (31 : Int32).toInt = 31 from rfl, show (128 : Int32).toInt = 128 from rfl, show (40 : Int32).toInt = 40 from rfl, show (41 : Int32).toInt = 41 from rfl]
  repeat' split
  all_goals first | rfl | (exfalso; omega)
theorem d1_0 : decode prog_16_method_6_code 0 = .ok (.iload_n 0, 1) := by decide +kernel
theorem d1_1 : decode prog_16_method_6_code 1 = .ok (.bipush 32, 2) := by decide +kernel
theorem d1_3 : decode prog_16_method_6_code 3 = .ok (.if_icmp .lt 30, 3) := by decide +kernel
theorem d1_6 : decode prog_16_method_6_code 6 = .ok (.iload_n 0, 1) := by decide +kernel
theorem d1_7 : decode prog_16_method_6_code 7 = .ok (.bipush 127, 2) := by decide +kernel
theorem d1_9 : decode prog_16_method_6_code 9 = .ok (.if_icmp .lt 10, 3) := by decide +kernel
theorem d1_12 : decode prog_16_method_6_code 12 = .ok (.iload_n 0, 1) := by decide +kernel
theorem d1_13 : decode prog_16_method_6_code 13 = .ok (.sipush 159, 3) := by decide +kernel
theorem d1_16 : decode prog_16_method_6_code 16 = .ok (.if_icmp .le 17, 3) := by decide +kernel
theorem d1_19 : decode prog_16_method_6_code 19 = .ok (.iload_n 0, 1) := by decide +kernel
theorem d1_20 : decode prog_16_method_6_code 20 = .ok (.sipush 8232, 3) := by decide +kernel
theorem d1_23 : decode prog_16_method_6_code 23 = .ok (.if_icmp .eq 10, 3) := by decide +kernel
theorem d1_26 : decode prog_16_method_6_code 26 = .ok (.iload_n 0, 1) := by decide +kernel
theorem d1_27 : decode prog_16_method_6_code 27 = .ok (.sipush 8233, 3) := by decide +kernel
theorem d1_30 : decode prog_16_method_6_code 30 = .ok (.if_icmp .ne 7, 3) := by decide +kernel
theorem d1_33 : decode prog_16_method_6_code 33 = .ok (.iconst 1, 1) := by decide +kernel
theorem d1_34 : decode prog_16_method_6_code 34 = .ok (.goto 4, 3) := by decide +kernel
theorem d1_37 : decode prog_16_method_6_code 37 = .ok (.iconst 0, 1) := by decide +kernel
theorem d1_38 : decode prog_16_method_6_code 38 = .ok (.ireturn, 1) := by decide +kernel
theorem pn_Diagnostic : plainName "com/example/headwater/headwater/core/Diagnostic" = true := by first | (simp [plainName, overriddenIn]; done) | decide +kernel
def QrmB (Z : State) (p0 : Int32) (h0 : Heap) (n0 : Nat) (v : Option Value) (h : Heap) (L : List Loc) : Prop := v = some (.int (own_bl p0)) ∧ Fr n0 L ∧ h = h0
set_option maxRecDepth 65536 in
set_option maxHeartbeats 40000000 in
theorem rmB (l : Launch) (Z : State) (av0 : Array Value) (hw : ∀ d ∈ tables_1, d.before av0 Z = true) (ws : List Jvm.Cond) (p0 : Int32) (h0 : Heap) (n0 : Nat) (Z0 : n0 ≤ h0.size)  :
    MetFree l (⟨"com/example/headwater/headwater/core/Diagnostic", "breaksLine", "(C)Z"⟩ : MethodName) (head1 (Jvm.Cond.code (⟨"com/example/headwater/headwater/core/Diagnostic", "breaksLine", "(C)Z"⟩ : MethodName) prog_16_method_6_code 1 (some .boolean) :: ws) ({ frames := 0, cells := 0, slots := 0, locals := 0 } : Room)) (fun a U => a = #[(.int p0)] ∧ Z.Warmed39 U.vm ∧ U.heap = h0) (fun _ _ _ _ _ => True) (fun _ U o U' => ∃ v L, o = .returned v ∧ QrmB Z p0 h0 n0 v U'.heap L ∧ FrameEnd U o U' L ({ frames := 0, cells := 0, slots := 0, locals := 0 } : Room).cells ({ frames := 0, cells := 0, slots := 0, locals := 0 } : Room).slots) := by
  refine MetFree.of_bodySF (plainFor_of_name pn_Diagnostic) hisR ?_
  intro p e s m args below meth c s₁ Bd hml0 hP hK
  obtain ⟨rfl, hZ, hh⟩ := hP
  have hx := Bd.exec
  have hby := Bd.bytes
  have hml : c.maxLocals = 1 := hml0
  have hown : s.vm.findClass "com/example/headwater/headwater/core/Diagnostic" = some m.cls := findClass_of_methodNamed Bd.named
  have hnm := (name_of_methodNamed Bd.named Bd.method).1
  have X0 : Stand p l e ({ frames := 0, cells := 0, slots := 0, locals := 0 } : Room) s m #[(.int p0)] below meth c s₁ [] 0 0 := Stand.of_body Bd
  have e0 : s₁.heap = h0 := by rw [← hh, Bd.state]; rfl
  have N0 := Fr.nil n0
  have pre0 : ∀ t, Steps p.tables e below (s₁.setTop (mkF m 0 #[.val (.int p0)] [])) t → Steps p.tables e below (s₁.setTop (entryFrame m #[(.int p0)] 1)) t := fun t k => castTop (by first | (simp [entryFrame, mkF, argsToLocals, Value.category]; done) | rfl) k
  have S1 : ∀ t, Steps p.tables e below (s₁.setTop (mkF m 3 #[.val (.int p0)] [(.int (32 : Int32)), (.int p0)])) t → Steps p.tables e below (s₁.setTop (mkF m 0 #[.val (.int p0)] [])) t := fun t k => id (by
    show Steps p.tables e below (s₁.setTop (mkF m 0 #[.val (.int p0)] [])) _
    refine XS.iloadN X0.here hx rfl (hb hby d1_0) rfl ?_
    show Steps p.tables e below (s₁.setTop (mkF m 1 #[.val (.int p0)] [(.int p0)])) _
    refine XT.bipushV X0.here hx rfl (32 : Int32) (hb hby d1_1) (by decide) ?_
    show Steps p.tables e below (s₁.setTop (mkF m 3 #[.val (.int p0)] [(.int (32 : Int32)), (.int p0)])) _
    exact k)
  by_cases hc3_2 : p0 < (32 : Int32)
  · have S3 : ∀ t, Steps p.tables e below (s₁.setTop (mkF m 38 #[.val (.int p0)] [(.int (1 : Int32))])) t → Steps p.tables e below (s₁.setTop (mkF m 0 #[.val (.int p0)] [])) t := fun t k => S1 t (by
      show Steps p.tables e below (s₁.setTop (mkF m 3 #[.val (.int p0)] [(.int (32 : Int32)), (.int p0)])) _
      refine XS.icmpYes X0.here hx rfl (pc0 := 3) (pc' := 33) rfl (hb hby d1_3) rfl (XT.ii_lt_t hc3_2) (by decide) (by decide) ?_
      show Steps p.tables e below (s₁.setTop (mkF m 33 #[.val (.int p0)] [])) _
      refine XT.iconstV X0.here hx rfl (1 : Int32) (hb hby d1_33) (by decide) ?_
      show Steps p.tables e below (s₁.setTop (mkF m 34 #[.val (.int p0)] [(.int (1 : Int32))])) _
      refine XS.goto X0.here hx rfl (pc0 := 34) (pc' := 38) rfl (hb hby d1_34) (by decide) (by decide) ?_
      show Steps p.tables e below (s₁.setTop (mkF m 38 #[.val (.int p0)] [(.int (1 : Int32))])) _
      exact k)
    obtain ⟨fs, hr, hrun, hended, hW, hsame⟩ := X0.leave (v := some (.int (1 : Int32))) (fun h => by rw [Bd.returns] at h; cases h)
    refine ⟨_, _, pre0 _ (S3 _ ?_), hrun, hended, _, _, rfl, ?_, ⟨_, rfl⟩, hW, hsame.mono (by decide) (by decide)⟩
    · exact retN X0 hx (t := .boolean) Bd.returns (by simp) (hb hby d1_38) hr
    · show QrmB Z p0 h0 n0 _ s₁.heap _
      rw [e0]
      exact ⟨by simp [own_bl, hc3_2], N0, rfl⟩
  · have S4 : ∀ t, Steps p.tables e below (s₁.setTop (mkF m 9 #[.val (.int p0)] [(.int (127 : Int32)), (.int p0)])) t → Steps p.tables e below (s₁.setTop (mkF m 0 #[.val (.int p0)] [])) t := fun t k => S1 t (by
      show Steps p.tables e below (s₁.setTop (mkF m 3 #[.val (.int p0)] [(.int (32 : Int32)), (.int p0)])) _
      refine XS.icmpNo X0.here hx rfl (hb hby d1_3) rfl (XT.ii_lt_f hc3_2) ?_
      show Steps p.tables e below (s₁.setTop (mkF m 6 #[.val (.int p0)] [])) _
      refine XS.iloadN X0.here hx rfl (hb hby d1_6) rfl ?_
      show Steps p.tables e below (s₁.setTop (mkF m 7 #[.val (.int p0)] [(.int p0)])) _
      refine XT.bipushV X0.here hx rfl (127 : Int32) (hb hby d1_7) (by decide) ?_
      show Steps p.tables e below (s₁.setTop (mkF m 9 #[.val (.int p0)] [(.int (127 : Int32)), (.int p0)])) _
      exact k)
    by_cases hc9_5 : p0 < (127 : Int32)
    · have S6 : ∀ t, Steps p.tables e below (s₁.setTop (mkF m 23 #[.val (.int p0)] [(.int (8232 : Int32)), (.int p0)])) t → Steps p.tables e below (s₁.setTop (mkF m 0 #[.val (.int p0)] [])) t := fun t k => S4 t (by
        show Steps p.tables e below (s₁.setTop (mkF m 9 #[.val (.int p0)] [(.int (127 : Int32)), (.int p0)])) _
        refine XS.icmpYes X0.here hx rfl (pc0 := 9) (pc' := 19) rfl (hb hby d1_9) rfl (XT.ii_lt_t hc9_5) (by decide) (by decide) ?_
        show Steps p.tables e below (s₁.setTop (mkF m 19 #[.val (.int p0)] [])) _
        refine XS.iloadN X0.here hx rfl (hb hby d1_19) rfl ?_
        show Steps p.tables e below (s₁.setTop (mkF m 20 #[.val (.int p0)] [(.int p0)])) _
        refine XT.sipushV X0.here hx rfl (8232 : Int32) (hb hby d1_20) (by decide) ?_
        show Steps p.tables e below (s₁.setTop (mkF m 23 #[.val (.int p0)] [(.int (8232 : Int32)), (.int p0)])) _
        exact k)
      by_cases hc23_7 : p0 = (8232 : Int32)
      · have S8 : ∀ t, Steps p.tables e below (s₁.setTop (mkF m 38 #[.val (.int p0)] [(.int (1 : Int32))])) t → Steps p.tables e below (s₁.setTop (mkF m 0 #[.val (.int p0)] [])) t := fun t k => S6 t (by
          show Steps p.tables e below (s₁.setTop (mkF m 23 #[.val (.int p0)] [(.int (8232 : Int32)), (.int p0)])) _
          refine XS.icmpYes X0.here hx rfl (pc0 := 23) (pc' := 33) rfl (hb hby d1_23) rfl (XT.ii_eq_t hc23_7) (by decide) (by decide) ?_
          show Steps p.tables e below (s₁.setTop (mkF m 33 #[.val (.int p0)] [])) _
          refine XT.iconstV X0.here hx rfl (1 : Int32) (hb hby d1_33) (by decide) ?_
          show Steps p.tables e below (s₁.setTop (mkF m 34 #[.val (.int p0)] [(.int (1 : Int32))])) _
          refine XS.goto X0.here hx rfl (pc0 := 34) (pc' := 38) rfl (hb hby d1_34) (by decide) (by decide) ?_
          show Steps p.tables e below (s₁.setTop (mkF m 38 #[.val (.int p0)] [(.int (1 : Int32))])) _
          exact k)
        obtain ⟨fs, hr, hrun, hended, hW, hsame⟩ := X0.leave (v := some (.int (1 : Int32))) (fun h => by rw [Bd.returns] at h; cases h)
        refine ⟨_, _, pre0 _ (S8 _ ?_), hrun, hended, _, _, rfl, ?_, ⟨_, rfl⟩, hW, hsame.mono (by decide) (by decide)⟩
        · exact retN X0 hx (t := .boolean) Bd.returns (by simp) (hb hby d1_38) hr
        · show QrmB Z p0 h0 n0 _ s₁.heap _
          rw [e0]
          exact ⟨by simp [own_bl, hc3_2, hc9_5, hc23_7], N0, rfl⟩
      · have S9 : ∀ t, Steps p.tables e below (s₁.setTop (mkF m 30 #[.val (.int p0)] [(.int (8233 : Int32)), (.int p0)])) t → Steps p.tables e below (s₁.setTop (mkF m 0 #[.val (.int p0)] [])) t := fun t k => S6 t (by
          show Steps p.tables e below (s₁.setTop (mkF m 23 #[.val (.int p0)] [(.int (8232 : Int32)), (.int p0)])) _
          refine XS.icmpNo X0.here hx rfl (hb hby d1_23) rfl (XT.ii_eq_f hc23_7) ?_
          show Steps p.tables e below (s₁.setTop (mkF m 26 #[.val (.int p0)] [])) _
          refine XS.iloadN X0.here hx rfl (hb hby d1_26) rfl ?_
          show Steps p.tables e below (s₁.setTop (mkF m 27 #[.val (.int p0)] [(.int p0)])) _
          refine XT.sipushV X0.here hx rfl (8233 : Int32) (hb hby d1_27) (by decide) ?_
          show Steps p.tables e below (s₁.setTop (mkF m 30 #[.val (.int p0)] [(.int (8233 : Int32)), (.int p0)])) _
          exact k)
        by_cases hc30_10 : p0 = (8233 : Int32)
        · have S11 : ∀ t, Steps p.tables e below (s₁.setTop (mkF m 38 #[.val (.int p0)] [(.int (1 : Int32))])) t → Steps p.tables e below (s₁.setTop (mkF m 0 #[.val (.int p0)] [])) t := fun t k => S9 t (by
            show Steps p.tables e below (s₁.setTop (mkF m 30 #[.val (.int p0)] [(.int (8233 : Int32)), (.int p0)])) _
            refine XS.icmpNo X0.here hx rfl (hb hby d1_30) rfl (XT.ii_ne_f hc30_10) ?_
            show Steps p.tables e below (s₁.setTop (mkF m 33 #[.val (.int p0)] [])) _
            refine XT.iconstV X0.here hx rfl (1 : Int32) (hb hby d1_33) (by decide) ?_
            show Steps p.tables e below (s₁.setTop (mkF m 34 #[.val (.int p0)] [(.int (1 : Int32))])) _
            refine XS.goto X0.here hx rfl (pc0 := 34) (pc' := 38) rfl (hb hby d1_34) (by decide) (by decide) ?_
            show Steps p.tables e below (s₁.setTop (mkF m 38 #[.val (.int p0)] [(.int (1 : Int32))])) _
            exact k)
          obtain ⟨fs, hr, hrun, hended, hW, hsame⟩ := X0.leave (v := some (.int (1 : Int32))) (fun h => by rw [Bd.returns] at h; cases h)
          refine ⟨_, _, pre0 _ (S11 _ ?_), hrun, hended, _, _, rfl, ?_, ⟨_, rfl⟩, hW, hsame.mono (by decide) (by decide)⟩
          · exact retN X0 hx (t := .boolean) Bd.returns (by simp) (hb hby d1_38) hr
          · show QrmB Z p0 h0 n0 _ s₁.heap _
            rw [e0]
            exact ⟨by simp [own_bl, hc3_2, hc9_5, hc23_7, hc30_10], N0, rfl⟩
        · have S12 : ∀ t, Steps p.tables e below (s₁.setTop (mkF m 38 #[.val (.int p0)] [(.int (0 : Int32))])) t → Steps p.tables e below (s₁.setTop (mkF m 0 #[.val (.int p0)] [])) t := fun t k => S9 t (by
            show Steps p.tables e below (s₁.setTop (mkF m 30 #[.val (.int p0)] [(.int (8233 : Int32)), (.int p0)])) _
            refine XS.icmpYes X0.here hx rfl (pc0 := 30) (pc' := 37) rfl (hb hby d1_30) rfl (XT.ii_ne_t hc30_10) (by decide) (by decide) ?_
            show Steps p.tables e below (s₁.setTop (mkF m 37 #[.val (.int p0)] [])) _
            refine XT.iconstV X0.here hx rfl (0 : Int32) (hb hby d1_37) (by decide) ?_
            show Steps p.tables e below (s₁.setTop (mkF m 38 #[.val (.int p0)] [(.int (0 : Int32))])) _
            exact k)
          obtain ⟨fs, hr, hrun, hended, hW, hsame⟩ := X0.leave (v := some (.int (0 : Int32))) (fun h => by rw [Bd.returns] at h; cases h)
          refine ⟨_, _, pre0 _ (S12 _ ?_), hrun, hended, _, _, rfl, ?_, ⟨_, rfl⟩, hW, hsame.mono (by decide) (by decide)⟩
          · exact retN X0 hx (t := .boolean) Bd.returns (by simp) (hb hby d1_38) hr
          · show QrmB Z p0 h0 n0 _ s₁.heap _
            rw [e0]
            exact ⟨by simp [own_bl, hc3_2, hc9_5, hc23_7, hc30_10], N0, rfl⟩
    · have S13 : ∀ t, Steps p.tables e below (s₁.setTop (mkF m 16 #[.val (.int p0)] [(.int (159 : Int32)), (.int p0)])) t → Steps p.tables e below (s₁.setTop (mkF m 0 #[.val (.int p0)] [])) t := fun t k => S4 t (by
        show Steps p.tables e below (s₁.setTop (mkF m 9 #[.val (.int p0)] [(.int (127 : Int32)), (.int p0)])) _
        refine XS.icmpNo X0.here hx rfl (hb hby d1_9) rfl (XT.ii_lt_f hc9_5) ?_
        show Steps p.tables e below (s₁.setTop (mkF m 12 #[.val (.int p0)] [])) _
        refine XS.iloadN X0.here hx rfl (hb hby d1_12) rfl ?_
        show Steps p.tables e below (s₁.setTop (mkF m 13 #[.val (.int p0)] [(.int p0)])) _
        refine XT.sipushV X0.here hx rfl (159 : Int32) (hb hby d1_13) (by decide) ?_
        show Steps p.tables e below (s₁.setTop (mkF m 16 #[.val (.int p0)] [(.int (159 : Int32)), (.int p0)])) _
        exact k)
      by_cases hc16_14 : (159 : Int32) < p0
      · have S15 : ∀ t, Steps p.tables e below (s₁.setTop (mkF m 23 #[.val (.int p0)] [(.int (8232 : Int32)), (.int p0)])) t → Steps p.tables e below (s₁.setTop (mkF m 0 #[.val (.int p0)] [])) t := fun t k => S13 t (by
          show Steps p.tables e below (s₁.setTop (mkF m 16 #[.val (.int p0)] [(.int (159 : Int32)), (.int p0)])) _
          refine XS.icmpNo X0.here hx rfl (hb hby d1_16) rfl (XT.ii_le_f hc16_14) ?_
          show Steps p.tables e below (s₁.setTop (mkF m 19 #[.val (.int p0)] [])) _
          refine XS.iloadN X0.here hx rfl (hb hby d1_19) rfl ?_
          show Steps p.tables e below (s₁.setTop (mkF m 20 #[.val (.int p0)] [(.int p0)])) _
          refine XT.sipushV X0.here hx rfl (8232 : Int32) (hb hby d1_20) (by decide) ?_
          show Steps p.tables e below (s₁.setTop (mkF m 23 #[.val (.int p0)] [(.int (8232 : Int32)), (.int p0)])) _
          exact k)
        by_cases hc23_16 : p0 = (8232 : Int32)
        · have S17 : ∀ t, Steps p.tables e below (s₁.setTop (mkF m 38 #[.val (.int p0)] [(.int (1 : Int32))])) t → Steps p.tables e below (s₁.setTop (mkF m 0 #[.val (.int p0)] [])) t := fun t k => S15 t (by
            show Steps p.tables e below (s₁.setTop (mkF m 23 #[.val (.int p0)] [(.int (8232 : Int32)), (.int p0)])) _
            refine XS.icmpYes X0.here hx rfl (pc0 := 23) (pc' := 33) rfl (hb hby d1_23) rfl (XT.ii_eq_t hc23_16) (by decide) (by decide) ?_
            show Steps p.tables e below (s₁.setTop (mkF m 33 #[.val (.int p0)] [])) _
            refine XT.iconstV X0.here hx rfl (1 : Int32) (hb hby d1_33) (by decide) ?_
            show Steps p.tables e below (s₁.setTop (mkF m 34 #[.val (.int p0)] [(.int (1 : Int32))])) _
            refine XS.goto X0.here hx rfl (pc0 := 34) (pc' := 38) rfl (hb hby d1_34) (by decide) (by decide) ?_
            show Steps p.tables e below (s₁.setTop (mkF m 38 #[.val (.int p0)] [(.int (1 : Int32))])) _
            exact k)
          obtain ⟨fs, hr, hrun, hended, hW, hsame⟩ := X0.leave (v := some (.int (1 : Int32))) (fun h => by rw [Bd.returns] at h; cases h)
          refine ⟨_, _, pre0 _ (S17 _ ?_), hrun, hended, _, _, rfl, ?_, ⟨_, rfl⟩, hW, hsame.mono (by decide) (by decide)⟩
          · exact retN X0 hx (t := .boolean) Bd.returns (by simp) (hb hby d1_38) hr
          · show QrmB Z p0 h0 n0 _ s₁.heap _
            rw [e0]
            exact ⟨by simp [own_bl, hc3_2, hc9_5, hc16_14, hc23_16], N0, rfl⟩
        · have S18 : ∀ t, Steps p.tables e below (s₁.setTop (mkF m 30 #[.val (.int p0)] [(.int (8233 : Int32)), (.int p0)])) t → Steps p.tables e below (s₁.setTop (mkF m 0 #[.val (.int p0)] [])) t := fun t k => S15 t (by
            show Steps p.tables e below (s₁.setTop (mkF m 23 #[.val (.int p0)] [(.int (8232 : Int32)), (.int p0)])) _
            refine XS.icmpNo X0.here hx rfl (hb hby d1_23) rfl (XT.ii_eq_f hc23_16) ?_
            show Steps p.tables e below (s₁.setTop (mkF m 26 #[.val (.int p0)] [])) _
            refine XS.iloadN X0.here hx rfl (hb hby d1_26) rfl ?_
            show Steps p.tables e below (s₁.setTop (mkF m 27 #[.val (.int p0)] [(.int p0)])) _
            refine XT.sipushV X0.here hx rfl (8233 : Int32) (hb hby d1_27) (by decide) ?_
            show Steps p.tables e below (s₁.setTop (mkF m 30 #[.val (.int p0)] [(.int (8233 : Int32)), (.int p0)])) _
            exact k)
          by_cases hc30_19 : p0 = (8233 : Int32)
          · have S20 : ∀ t, Steps p.tables e below (s₁.setTop (mkF m 38 #[.val (.int p0)] [(.int (1 : Int32))])) t → Steps p.tables e below (s₁.setTop (mkF m 0 #[.val (.int p0)] [])) t := fun t k => S18 t (by
              show Steps p.tables e below (s₁.setTop (mkF m 30 #[.val (.int p0)] [(.int (8233 : Int32)), (.int p0)])) _
              refine XS.icmpNo X0.here hx rfl (hb hby d1_30) rfl (XT.ii_ne_f hc30_19) ?_
              show Steps p.tables e below (s₁.setTop (mkF m 33 #[.val (.int p0)] [])) _
              refine XT.iconstV X0.here hx rfl (1 : Int32) (hb hby d1_33) (by decide) ?_
              show Steps p.tables e below (s₁.setTop (mkF m 34 #[.val (.int p0)] [(.int (1 : Int32))])) _
              refine XS.goto X0.here hx rfl (pc0 := 34) (pc' := 38) rfl (hb hby d1_34) (by decide) (by decide) ?_
              show Steps p.tables e below (s₁.setTop (mkF m 38 #[.val (.int p0)] [(.int (1 : Int32))])) _
              exact k)
            obtain ⟨fs, hr, hrun, hended, hW, hsame⟩ := X0.leave (v := some (.int (1 : Int32))) (fun h => by rw [Bd.returns] at h; cases h)
            refine ⟨_, _, pre0 _ (S20 _ ?_), hrun, hended, _, _, rfl, ?_, ⟨_, rfl⟩, hW, hsame.mono (by decide) (by decide)⟩
            · exact retN X0 hx (t := .boolean) Bd.returns (by simp) (hb hby d1_38) hr
            · show QrmB Z p0 h0 n0 _ s₁.heap _
              rw [e0]
              exact ⟨by simp [own_bl, hc3_2, hc9_5, hc16_14, hc23_16, hc30_19], N0, rfl⟩
          · have S21 : ∀ t, Steps p.tables e below (s₁.setTop (mkF m 38 #[.val (.int p0)] [(.int (0 : Int32))])) t → Steps p.tables e below (s₁.setTop (mkF m 0 #[.val (.int p0)] [])) t := fun t k => S18 t (by
              show Steps p.tables e below (s₁.setTop (mkF m 30 #[.val (.int p0)] [(.int (8233 : Int32)), (.int p0)])) _
              refine XS.icmpYes X0.here hx rfl (pc0 := 30) (pc' := 37) rfl (hb hby d1_30) rfl (XT.ii_ne_t hc30_19) (by decide) (by decide) ?_
              show Steps p.tables e below (s₁.setTop (mkF m 37 #[.val (.int p0)] [])) _
              refine XT.iconstV X0.here hx rfl (0 : Int32) (hb hby d1_37) (by decide) ?_
              show Steps p.tables e below (s₁.setTop (mkF m 38 #[.val (.int p0)] [(.int (0 : Int32))])) _
              exact k)
            obtain ⟨fs, hr, hrun, hended, hW, hsame⟩ := X0.leave (v := some (.int (0 : Int32))) (fun h => by rw [Bd.returns] at h; cases h)
            refine ⟨_, _, pre0 _ (S21 _ ?_), hrun, hended, _, _, rfl, ?_, ⟨_, rfl⟩, hW, hsame.mono (by decide) (by decide)⟩
            · exact retN X0 hx (t := .boolean) Bd.returns (by simp) (hb hby d1_38) hr
            · show QrmB Z p0 h0 n0 _ s₁.heap _
              rw [e0]
              exact ⟨by simp [own_bl, hc3_2, hc9_5, hc16_14, hc23_16, hc30_19], N0, rfl⟩
      · have S22 : ∀ t, Steps p.tables e below (s₁.setTop (mkF m 38 #[.val (.int p0)] [(.int (1 : Int32))])) t → Steps p.tables e below (s₁.setTop (mkF m 0 #[.val (.int p0)] [])) t := fun t k => S13 t (by
          show Steps p.tables e below (s₁.setTop (mkF m 16 #[.val (.int p0)] [(.int (159 : Int32)), (.int p0)])) _
          refine XS.icmpYes X0.here hx rfl (pc0 := 16) (pc' := 33) rfl (hb hby d1_16) rfl (XT.ii_le_t hc16_14) (by decide) (by decide) ?_
          show Steps p.tables e below (s₁.setTop (mkF m 33 #[.val (.int p0)] [])) _
          refine XT.iconstV X0.here hx rfl (1 : Int32) (hb hby d1_33) (by decide) ?_
          show Steps p.tables e below (s₁.setTop (mkF m 34 #[.val (.int p0)] [(.int (1 : Int32))])) _
          refine XS.goto X0.here hx rfl (pc0 := 34) (pc' := 38) rfl (hb hby d1_34) (by decide) (by decide) ?_
          show Steps p.tables e below (s₁.setTop (mkF m 38 #[.val (.int p0)] [(.int (1 : Int32))])) _
          exact k)
        obtain ⟨fs, hr, hrun, hended, hW, hsame⟩ := X0.leave (v := some (.int (1 : Int32))) (fun h => by rw [Bd.returns] at h; cases h)
        refine ⟨_, _, pre0 _ (S22 _ ?_), hrun, hended, _, _, rfl, ?_, ⟨_, rfl⟩, hW, hsame.mono (by decide) (by decide)⟩
        · exact retN X0 hx (t := .boolean) Bd.returns (by simp) (hb hby d1_38) hr
        · show QrmB Z p0 h0 n0 _ s₁.heap _
          rw [e0]
          exact ⟨by simp [own_bl, hc3_2, hc9_5, hc16_14], N0, rfl⟩
theorem d2_0 : decode method_2_code 0 = .ok (.iload_n 0, 1) := by decide +kernel
theorem d2_1 : decode method_2_code 1 = .ok (.bipush 8, 2) := by decide +kernel
theorem d2_3 : decode method_2_code 3 = .ok (.iushr, 1) := by decide +kernel
theorem d2_4 : decode method_2_code 4 = .ok (.istore_n 1, 1) := by decide +kernel
theorem d2_5 : decode method_2_code 5 = .ok (.iload_n 0, 1) := by decide +kernel
theorem d2_6 : decode method_2_code 6 = .ok (.sipush 255, 3) := by decide +kernel
theorem d2_9 : decode method_2_code 9 = .ok (.iand, 1) := by decide +kernel
theorem d2_10 : decode method_2_code 10 = .ok (.istore_n 2, 1) := by decide +kernel
theorem d2_11 : decode method_2_code 11 = .ok (.iload_n 1, 1) := by decide +kernel
theorem d2_12 : decode method_2_code 12 = .ok (.ifCond .ne 37, 3) := by decide +kernel
theorem d2_15 : decode method_2_code 15 = .ok (.iload_n 2, 1) := by decide +kernel
theorem d2_16 : decode method_2_code 16 = .ok (.bipush 31, 2) := by decide +kernel
theorem d2_18 : decode method_2_code 18 = .ok (.if_icmp .gt 5, 3) := by decide +kernel
theorem d2_21 : decode method_2_code 21 = .ok (.iconst 1, 1) := by decide +kernel
theorem d2_22 : decode method_2_code 22 = .ok (.ireturn, 1) := by decide +kernel
theorem d2_23 : decode method_2_code 23 = .ok (.iload_n 2, 1) := by decide +kernel
theorem d2_24 : decode method_2_code 24 = .ok (.bipush 127, 2) := by decide +kernel
theorem d2_26 : decode method_2_code 26 = .ok (.if_icmp .ne 5, 3) := by decide +kernel
theorem d2_29 : decode method_2_code 29 = .ok (.iconst 1, 1) := by decide +kernel
theorem d2_30 : decode method_2_code 30 = .ok (.ireturn, 1) := by decide +kernel
theorem d2_31 : decode method_2_code 31 = .ok (.iload_n 2, 1) := by decide +kernel
theorem d2_32 : decode method_2_code 32 = .ok (.sipush 128, 3) := by decide +kernel
theorem d2_35 : decode method_2_code 35 = .ok (.if_icmp .lt 12, 3) := by decide +kernel
theorem d2_38 : decode method_2_code 38 = .ok (.iload_n 2, 1) := by decide +kernel
theorem d2_39 : decode method_2_code 39 = .ok (.sipush 159, 3) := by decide +kernel
theorem d2_42 : decode method_2_code 42 = .ok (.if_icmp .gt 5, 3) := by decide +kernel
theorem d2_45 : decode method_2_code 45 = .ok (.iconst 1, 1) := by decide +kernel
theorem d2_46 : decode method_2_code 46 = .ok (.ireturn, 1) := by decide +kernel
theorem d2_47 : decode method_2_code 47 = .ok (.iconst 0, 1) := by decide +kernel
theorem d2_48 : decode method_2_code 48 = .ok (.ireturn, 1) := by decide +kernel
theorem d2_49 : decode method_2_code 49 = .ok (.iload_n 1, 1) := by decide +kernel
theorem d2_50 : decode method_2_code 50 = .ok (.bipush 32, 2) := by decide +kernel
theorem d2_52 : decode method_2_code 52 = .ok (.if_icmp .ne 21, 3) := by decide +kernel
theorem d2_55 : decode method_2_code 55 = .ok (.iload_n 2, 1) := by decide +kernel
theorem d2_56 : decode method_2_code 56 = .ok (.bipush 40, 2) := by decide +kernel
theorem d2_58 : decode method_2_code 58 = .ok (.if_icmp .eq 9, 3) := by decide +kernel
theorem d2_61 : decode method_2_code 61 = .ok (.iload_n 2, 1) := by decide +kernel
theorem d2_62 : decode method_2_code 62 = .ok (.bipush 41, 2) := by decide +kernel
theorem d2_64 : decode method_2_code 64 = .ok (.if_icmp .ne 7, 3) := by decide +kernel
theorem d2_67 : decode method_2_code 67 = .ok (.iconst 1, 1) := by decide +kernel
theorem d2_68 : decode method_2_code 68 = .ok (.goto 4, 3) := by decide +kernel
theorem d2_71 : decode method_2_code 71 = .ok (.iconst 0, 1) := by decide +kernel
theorem d2_72 : decode method_2_code 72 = .ok (.ireturn, 1) := by decide +kernel
theorem d2_73 : decode method_2_code 73 = .ok (.iconst 0, 1) := by decide +kernel
theorem d2_74 : decode method_2_code 74 = .ok (.ireturn, 1) := by decide +kernel
theorem pn_DiagnosticBreaksLinePinLaw : plainName "com/example/headwater/headwater/core/DiagnosticBreaksLinePinLaw" = true := by first | (simp [plainName, overriddenIn]; done) | decide +kernel
def QrmE (Z : State) (p0 : Int32) (h0 : Heap) (n0 : Nat) (v : Option Value) (h : Heap) (L : List Loc) : Prop := v = some (.int (own_ex p0)) ∧ Fr n0 L ∧ h = h0
set_option maxRecDepth 65536 in
set_option maxHeartbeats 40000000 in
theorem rmE (l : Launch) (Z : State) (av0 : Array Value) (hw : ∀ d ∈ tables_1, d.before av0 Z = true) (ws : List Jvm.Cond) (p0 : Int32) (h0 : Heap) (n0 : Nat) (Z0 : n0 ≤ h0.size)  :
    MetFree l (⟨"com/example/headwater/headwater/core/DiagnosticBreaksLinePinLaw", "expected", "(I)Z"⟩ : MethodName) (head1 (Jvm.Cond.code (⟨"com/example/headwater/headwater/core/DiagnosticBreaksLinePinLaw", "expected", "(I)Z"⟩ : MethodName) method_2_code 3 (some .boolean) :: ws) ({ frames := 0, cells := 0, slots := 0, locals := 0 } : Room)) (fun a U => a = #[(.int p0)] ∧ Z.Warmed39 U.vm ∧ U.heap = h0) (fun _ _ _ _ _ => True) (fun _ U o U' => ∃ v L, o = .returned v ∧ QrmE Z p0 h0 n0 v U'.heap L ∧ FrameEnd U o U' L ({ frames := 0, cells := 0, slots := 0, locals := 0 } : Room).cells ({ frames := 0, cells := 0, slots := 0, locals := 0 } : Room).slots) := by
  refine MetFree.of_bodySF (plainFor_of_name pn_DiagnosticBreaksLinePinLaw) hisR ?_
  intro p e s m args below meth c s₁ Bd hml0 hP hK
  obtain ⟨rfl, hZ, hh⟩ := hP
  have hx := Bd.exec
  have hby := Bd.bytes
  have hml : c.maxLocals = 3 := hml0
  have hown : s.vm.findClass "com/example/headwater/headwater/core/DiagnosticBreaksLinePinLaw" = some m.cls := findClass_of_methodNamed Bd.named
  have hnm := (name_of_methodNamed Bd.named Bd.method).1
  have X0 : Stand p l e ({ frames := 0, cells := 0, slots := 0, locals := 0 } : Room) s m #[(.int p0)] below meth c s₁ [] 0 0 := Stand.of_body Bd
  have e0 : s₁.heap = h0 := by rw [← hh, Bd.state]; rfl
  have N0 := Fr.nil n0
  have pre0 : ∀ t, Steps p.tables e below (s₁.setTop (mkF m 0 #[.val (.int p0), .unset, .unset] [])) t → Steps p.tables e below (s₁.setTop (entryFrame m #[(.int p0)] 3)) t := fun t k => castTop (by first | (simp [entryFrame, mkF, argsToLocals, Value.category]; done) | rfl) k
  have S1 : ∀ t, Steps p.tables e below (s₁.setTop (mkF m 12 #[.val (.int p0), .val (.int (XT.ushr p0 (8 : Int32))), .val (.int (p0 &&& (255 : Int32)))] [(.int (XT.ushr p0 (8 : Int32)))])) t → Steps p.tables e below (s₁.setTop (mkF m 0 #[.val (.int p0), .unset, .unset] [])) t := fun t k => id (by
    show Steps p.tables e below (s₁.setTop (mkF m 0 #[.val (.int p0), .unset, .unset] [])) _
    refine XS.iloadN X0.here hx rfl (hb hby d2_0) rfl ?_
    show Steps p.tables e below (s₁.setTop (mkF m 1 #[.val (.int p0), .unset, .unset] [(.int p0)])) _
    refine XT.bipushV X0.here hx rfl (8 : Int32) (hb hby d2_1) (by decide) ?_
    show Steps p.tables e below (s₁.setTop (mkF m 3 #[.val (.int p0), .unset, .unset] [(.int (8 : Int32)), (.int p0)])) _
    refine XT.iushr X0.here hx rfl (hb hby d2_3) rfl ?_
    show Steps p.tables e below (s₁.setTop (mkF m 4 #[.val (.int p0), .unset, .unset] [(.int (XT.ushr p0 (8 : Int32)))])) _
    refine XS.istoreN X0.here hx rfl (hb hby d2_4) rfl (l' := #[.val (.int p0), .val (.int (XT.ushr p0 (8 : Int32))), .unset]) rfl ?_
    show Steps p.tables e below (s₁.setTop (mkF m 5 #[.val (.int p0), .val (.int (XT.ushr p0 (8 : Int32))), .unset] [])) _
    refine XS.iloadN X0.here hx rfl (hb hby d2_5) rfl ?_
    show Steps p.tables e below (s₁.setTop (mkF m 6 #[.val (.int p0), .val (.int (XT.ushr p0 (8 : Int32))), .unset] [(.int p0)])) _
    refine XT.sipushV X0.here hx rfl (255 : Int32) (hb hby d2_6) (by decide) ?_
    show Steps p.tables e below (s₁.setTop (mkF m 9 #[.val (.int p0), .val (.int (XT.ushr p0 (8 : Int32))), .unset] [(.int (255 : Int32)), (.int p0)])) _
    refine XS.iand X0.here hx rfl (hb hby d2_9) rfl ?_
    show Steps p.tables e below (s₁.setTop (mkF m 10 #[.val (.int p0), .val (.int (XT.ushr p0 (8 : Int32))), .unset] [(.int (p0 &&& (255 : Int32)))])) _
    refine XS.istoreN X0.here hx rfl (hb hby d2_10) rfl (l' := #[.val (.int p0), .val (.int (XT.ushr p0 (8 : Int32))), .val (.int (p0 &&& (255 : Int32)))]) rfl ?_
    show Steps p.tables e below (s₁.setTop (mkF m 11 #[.val (.int p0), .val (.int (XT.ushr p0 (8 : Int32))), .val (.int (p0 &&& (255 : Int32)))] [])) _
    refine XS.iloadN X0.here hx rfl (hb hby d2_11) rfl ?_
    show Steps p.tables e below (s₁.setTop (mkF m 12 #[.val (.int p0), .val (.int (XT.ushr p0 (8 : Int32))), .val (.int (p0 &&& (255 : Int32)))] [(.int (XT.ushr p0 (8 : Int32)))])) _
    exact k)
  by_cases hc12_2 : (XT.ushr p0 (8 : Int32)) = (0 : Int32)
  · have S3 : ∀ t, Steps p.tables e below (s₁.setTop (mkF m 18 #[.val (.int p0), .val (.int (XT.ushr p0 (8 : Int32))), .val (.int (p0 &&& (255 : Int32)))] [(.int (31 : Int32)), (.int (p0 &&& (255 : Int32)))])) t → Steps p.tables e below (s₁.setTop (mkF m 0 #[.val (.int p0), .unset, .unset] [])) t := fun t k => S1 t (by
      show Steps p.tables e below (s₁.setTop (mkF m 12 #[.val (.int p0), .val (.int (XT.ushr p0 (8 : Int32))), .val (.int (p0 &&& (255 : Int32)))] [(.int (XT.ushr p0 (8 : Int32)))])) _
      refine XS.ifNo X0.here hx rfl (hb hby d2_12) rfl (XT.i0_ne_f hc12_2) ?_
      show Steps p.tables e below (s₁.setTop (mkF m 15 #[.val (.int p0), .val (.int (XT.ushr p0 (8 : Int32))), .val (.int (p0 &&& (255 : Int32)))] [])) _
      refine XS.iloadN X0.here hx rfl (hb hby d2_15) rfl ?_
      show Steps p.tables e below (s₁.setTop (mkF m 16 #[.val (.int p0), .val (.int (XT.ushr p0 (8 : Int32))), .val (.int (p0 &&& (255 : Int32)))] [(.int (p0 &&& (255 : Int32)))])) _
      refine XT.bipushV X0.here hx rfl (31 : Int32) (hb hby d2_16) (by decide) ?_
      show Steps p.tables e below (s₁.setTop (mkF m 18 #[.val (.int p0), .val (.int (XT.ushr p0 (8 : Int32))), .val (.int (p0 &&& (255 : Int32)))] [(.int (31 : Int32)), (.int (p0 &&& (255 : Int32)))])) _
      exact k)
    by_cases hc18_4 : (31 : Int32) < (p0 &&& (255 : Int32))
    · have S5 : ∀ t, Steps p.tables e below (s₁.setTop (mkF m 26 #[.val (.int p0), .val (.int (XT.ushr p0 (8 : Int32))), .val (.int (p0 &&& (255 : Int32)))] [(.int (127 : Int32)), (.int (p0 &&& (255 : Int32)))])) t → Steps p.tables e below (s₁.setTop (mkF m 0 #[.val (.int p0), .unset, .unset] [])) t := fun t k => S3 t (by
        show Steps p.tables e below (s₁.setTop (mkF m 18 #[.val (.int p0), .val (.int (XT.ushr p0 (8 : Int32))), .val (.int (p0 &&& (255 : Int32)))] [(.int (31 : Int32)), (.int (p0 &&& (255 : Int32)))])) _
        refine XS.icmpYes X0.here hx rfl (pc0 := 18) (pc' := 23) rfl (hb hby d2_18) rfl (XT.ii_gt_t hc18_4) (by decide) (by decide) ?_
        show Steps p.tables e below (s₁.setTop (mkF m 23 #[.val (.int p0), .val (.int (XT.ushr p0 (8 : Int32))), .val (.int (p0 &&& (255 : Int32)))] [])) _
        refine XS.iloadN X0.here hx rfl (hb hby d2_23) rfl ?_
        show Steps p.tables e below (s₁.setTop (mkF m 24 #[.val (.int p0), .val (.int (XT.ushr p0 (8 : Int32))), .val (.int (p0 &&& (255 : Int32)))] [(.int (p0 &&& (255 : Int32)))])) _
        refine XT.bipushV X0.here hx rfl (127 : Int32) (hb hby d2_24) (by decide) ?_
        show Steps p.tables e below (s₁.setTop (mkF m 26 #[.val (.int p0), .val (.int (XT.ushr p0 (8 : Int32))), .val (.int (p0 &&& (255 : Int32)))] [(.int (127 : Int32)), (.int (p0 &&& (255 : Int32)))])) _
        exact k)
      by_cases hc26_6 : (p0 &&& (255 : Int32)) = (127 : Int32)
      · have S7 : ∀ t, Steps p.tables e below (s₁.setTop (mkF m 30 #[.val (.int p0), .val (.int (XT.ushr p0 (8 : Int32))), .val (.int (p0 &&& (255 : Int32)))] [(.int (1 : Int32))])) t → Steps p.tables e below (s₁.setTop (mkF m 0 #[.val (.int p0), .unset, .unset] [])) t := fun t k => S5 t (by
          show Steps p.tables e below (s₁.setTop (mkF m 26 #[.val (.int p0), .val (.int (XT.ushr p0 (8 : Int32))), .val (.int (p0 &&& (255 : Int32)))] [(.int (127 : Int32)), (.int (p0 &&& (255 : Int32)))])) _
          refine XS.icmpNo X0.here hx rfl (hb hby d2_26) rfl (XT.ii_ne_f hc26_6) ?_
          show Steps p.tables e below (s₁.setTop (mkF m 29 #[.val (.int p0), .val (.int (XT.ushr p0 (8 : Int32))), .val (.int (p0 &&& (255 : Int32)))] [])) _
          refine XT.iconstV X0.here hx rfl (1 : Int32) (hb hby d2_29) (by decide) ?_
          show Steps p.tables e below (s₁.setTop (mkF m 30 #[.val (.int p0), .val (.int (XT.ushr p0 (8 : Int32))), .val (.int (p0 &&& (255 : Int32)))] [(.int (1 : Int32))])) _
          exact k)
        obtain ⟨fs, hr, hrun, hended, hW, hsame⟩ := X0.leave (v := some (.int (1 : Int32))) (fun h => by rw [Bd.returns] at h; cases h)
        refine ⟨_, _, pre0 _ (S7 _ ?_), hrun, hended, _, _, rfl, ?_, ⟨_, rfl⟩, hW, hsame.mono (by decide) (by decide)⟩
        · exact retN X0 hx (t := .boolean) Bd.returns (by simp) (hb hby d2_30) hr
        · show QrmE Z p0 h0 n0 _ s₁.heap _
          rw [e0]
          exact ⟨by simp [own_ex, hc12_2, hc18_4, hc26_6], N0, rfl⟩
      · have S8 : ∀ t, Steps p.tables e below (s₁.setTop (mkF m 35 #[.val (.int p0), .val (.int (XT.ushr p0 (8 : Int32))), .val (.int (p0 &&& (255 : Int32)))] [(.int (128 : Int32)), (.int (p0 &&& (255 : Int32)))])) t → Steps p.tables e below (s₁.setTop (mkF m 0 #[.val (.int p0), .unset, .unset] [])) t := fun t k => S5 t (by
          show Steps p.tables e below (s₁.setTop (mkF m 26 #[.val (.int p0), .val (.int (XT.ushr p0 (8 : Int32))), .val (.int (p0 &&& (255 : Int32)))] [(.int (127 : Int32)), (.int (p0 &&& (255 : Int32)))])) _
          refine XS.icmpYes X0.here hx rfl (pc0 := 26) (pc' := 31) rfl (hb hby d2_26) rfl (XT.ii_ne_t hc26_6) (by decide) (by decide) ?_
          show Steps p.tables e below (s₁.setTop (mkF m 31 #[.val (.int p0), .val (.int (XT.ushr p0 (8 : Int32))), .val (.int (p0 &&& (255 : Int32)))] [])) _
          refine XS.iloadN X0.here hx rfl (hb hby d2_31) rfl ?_
          show Steps p.tables e below (s₁.setTop (mkF m 32 #[.val (.int p0), .val (.int (XT.ushr p0 (8 : Int32))), .val (.int (p0 &&& (255 : Int32)))] [(.int (p0 &&& (255 : Int32)))])) _
          refine XT.sipushV X0.here hx rfl (128 : Int32) (hb hby d2_32) (by decide) ?_
          show Steps p.tables e below (s₁.setTop (mkF m 35 #[.val (.int p0), .val (.int (XT.ushr p0 (8 : Int32))), .val (.int (p0 &&& (255 : Int32)))] [(.int (128 : Int32)), (.int (p0 &&& (255 : Int32)))])) _
          exact k)
        by_cases hc35_9 : (p0 &&& (255 : Int32)) < (128 : Int32)
        · have S10 : ∀ t, Steps p.tables e below (s₁.setTop (mkF m 48 #[.val (.int p0), .val (.int (XT.ushr p0 (8 : Int32))), .val (.int (p0 &&& (255 : Int32)))] [(.int (0 : Int32))])) t → Steps p.tables e below (s₁.setTop (mkF m 0 #[.val (.int p0), .unset, .unset] [])) t := fun t k => S8 t (by
            show Steps p.tables e below (s₁.setTop (mkF m 35 #[.val (.int p0), .val (.int (XT.ushr p0 (8 : Int32))), .val (.int (p0 &&& (255 : Int32)))] [(.int (128 : Int32)), (.int (p0 &&& (255 : Int32)))])) _
            refine XS.icmpYes X0.here hx rfl (pc0 := 35) (pc' := 47) rfl (hb hby d2_35) rfl (XT.ii_lt_t hc35_9) (by decide) (by decide) ?_
            show Steps p.tables e below (s₁.setTop (mkF m 47 #[.val (.int p0), .val (.int (XT.ushr p0 (8 : Int32))), .val (.int (p0 &&& (255 : Int32)))] [])) _
            refine XT.iconstV X0.here hx rfl (0 : Int32) (hb hby d2_47) (by decide) ?_
            show Steps p.tables e below (s₁.setTop (mkF m 48 #[.val (.int p0), .val (.int (XT.ushr p0 (8 : Int32))), .val (.int (p0 &&& (255 : Int32)))] [(.int (0 : Int32))])) _
            exact k)
          obtain ⟨fs, hr, hrun, hended, hW, hsame⟩ := X0.leave (v := some (.int (0 : Int32))) (fun h => by rw [Bd.returns] at h; cases h)
          refine ⟨_, _, pre0 _ (S10 _ ?_), hrun, hended, _, _, rfl, ?_, ⟨_, rfl⟩, hW, hsame.mono (by decide) (by decide)⟩
          · exact retN X0 hx (t := .boolean) Bd.returns (by simp) (hb hby d2_48) hr
          · show QrmE Z p0 h0 n0 _ s₁.heap _
            rw [e0]
            exact ⟨by simp [own_ex, hc12_2, hc18_4, hc26_6, hc35_9], N0, rfl⟩
        · have S11 : ∀ t, Steps p.tables e below (s₁.setTop (mkF m 42 #[.val (.int p0), .val (.int (XT.ushr p0 (8 : Int32))), .val (.int (p0 &&& (255 : Int32)))] [(.int (159 : Int32)), (.int (p0 &&& (255 : Int32)))])) t → Steps p.tables e below (s₁.setTop (mkF m 0 #[.val (.int p0), .unset, .unset] [])) t := fun t k => S8 t (by
            show Steps p.tables e below (s₁.setTop (mkF m 35 #[.val (.int p0), .val (.int (XT.ushr p0 (8 : Int32))), .val (.int (p0 &&& (255 : Int32)))] [(.int (128 : Int32)), (.int (p0 &&& (255 : Int32)))])) _
            refine XS.icmpNo X0.here hx rfl (hb hby d2_35) rfl (XT.ii_lt_f hc35_9) ?_
            show Steps p.tables e below (s₁.setTop (mkF m 38 #[.val (.int p0), .val (.int (XT.ushr p0 (8 : Int32))), .val (.int (p0 &&& (255 : Int32)))] [])) _
            refine XS.iloadN X0.here hx rfl (hb hby d2_38) rfl ?_
            show Steps p.tables e below (s₁.setTop (mkF m 39 #[.val (.int p0), .val (.int (XT.ushr p0 (8 : Int32))), .val (.int (p0 &&& (255 : Int32)))] [(.int (p0 &&& (255 : Int32)))])) _
            refine XT.sipushV X0.here hx rfl (159 : Int32) (hb hby d2_39) (by decide) ?_
            show Steps p.tables e below (s₁.setTop (mkF m 42 #[.val (.int p0), .val (.int (XT.ushr p0 (8 : Int32))), .val (.int (p0 &&& (255 : Int32)))] [(.int (159 : Int32)), (.int (p0 &&& (255 : Int32)))])) _
            exact k)
          by_cases hc42_12 : (159 : Int32) < (p0 &&& (255 : Int32))
          · have S13 : ∀ t, Steps p.tables e below (s₁.setTop (mkF m 48 #[.val (.int p0), .val (.int (XT.ushr p0 (8 : Int32))), .val (.int (p0 &&& (255 : Int32)))] [(.int (0 : Int32))])) t → Steps p.tables e below (s₁.setTop (mkF m 0 #[.val (.int p0), .unset, .unset] [])) t := fun t k => S11 t (by
              show Steps p.tables e below (s₁.setTop (mkF m 42 #[.val (.int p0), .val (.int (XT.ushr p0 (8 : Int32))), .val (.int (p0 &&& (255 : Int32)))] [(.int (159 : Int32)), (.int (p0 &&& (255 : Int32)))])) _
              refine XS.icmpYes X0.here hx rfl (pc0 := 42) (pc' := 47) rfl (hb hby d2_42) rfl (XT.ii_gt_t hc42_12) (by decide) (by decide) ?_
              show Steps p.tables e below (s₁.setTop (mkF m 47 #[.val (.int p0), .val (.int (XT.ushr p0 (8 : Int32))), .val (.int (p0 &&& (255 : Int32)))] [])) _
              refine XT.iconstV X0.here hx rfl (0 : Int32) (hb hby d2_47) (by decide) ?_
              show Steps p.tables e below (s₁.setTop (mkF m 48 #[.val (.int p0), .val (.int (XT.ushr p0 (8 : Int32))), .val (.int (p0 &&& (255 : Int32)))] [(.int (0 : Int32))])) _
              exact k)
            obtain ⟨fs, hr, hrun, hended, hW, hsame⟩ := X0.leave (v := some (.int (0 : Int32))) (fun h => by rw [Bd.returns] at h; cases h)
            refine ⟨_, _, pre0 _ (S13 _ ?_), hrun, hended, _, _, rfl, ?_, ⟨_, rfl⟩, hW, hsame.mono (by decide) (by decide)⟩
            · exact retN X0 hx (t := .boolean) Bd.returns (by simp) (hb hby d2_48) hr
            · show QrmE Z p0 h0 n0 _ s₁.heap _
              rw [e0]
              exact ⟨by simp [own_ex, hc12_2, hc18_4, hc26_6, hc35_9, hc42_12], N0, rfl⟩
          · have S14 : ∀ t, Steps p.tables e below (s₁.setTop (mkF m 46 #[.val (.int p0), .val (.int (XT.ushr p0 (8 : Int32))), .val (.int (p0 &&& (255 : Int32)))] [(.int (1 : Int32))])) t → Steps p.tables e below (s₁.setTop (mkF m 0 #[.val (.int p0), .unset, .unset] [])) t := fun t k => S11 t (by
              show Steps p.tables e below (s₁.setTop (mkF m 42 #[.val (.int p0), .val (.int (XT.ushr p0 (8 : Int32))), .val (.int (p0 &&& (255 : Int32)))] [(.int (159 : Int32)), (.int (p0 &&& (255 : Int32)))])) _
              refine XS.icmpNo X0.here hx rfl (hb hby d2_42) rfl (XT.ii_gt_f hc42_12) ?_
              show Steps p.tables e below (s₁.setTop (mkF m 45 #[.val (.int p0), .val (.int (XT.ushr p0 (8 : Int32))), .val (.int (p0 &&& (255 : Int32)))] [])) _
              refine XT.iconstV X0.here hx rfl (1 : Int32) (hb hby d2_45) (by decide) ?_
              show Steps p.tables e below (s₁.setTop (mkF m 46 #[.val (.int p0), .val (.int (XT.ushr p0 (8 : Int32))), .val (.int (p0 &&& (255 : Int32)))] [(.int (1 : Int32))])) _
              exact k)
            obtain ⟨fs, hr, hrun, hended, hW, hsame⟩ := X0.leave (v := some (.int (1 : Int32))) (fun h => by rw [Bd.returns] at h; cases h)
            refine ⟨_, _, pre0 _ (S14 _ ?_), hrun, hended, _, _, rfl, ?_, ⟨_, rfl⟩, hW, hsame.mono (by decide) (by decide)⟩
            · exact retN X0 hx (t := .boolean) Bd.returns (by simp) (hb hby d2_46) hr
            · show QrmE Z p0 h0 n0 _ s₁.heap _
              rw [e0]
              exact ⟨by simp [own_ex, hc12_2, hc18_4, hc26_6, hc35_9, hc42_12], N0, rfl⟩
    · have S15 : ∀ t, Steps p.tables e below (s₁.setTop (mkF m 22 #[.val (.int p0), .val (.int (XT.ushr p0 (8 : Int32))), .val (.int (p0 &&& (255 : Int32)))] [(.int (1 : Int32))])) t → Steps p.tables e below (s₁.setTop (mkF m 0 #[.val (.int p0), .unset, .unset] [])) t := fun t k => S3 t (by
        show Steps p.tables e below (s₁.setTop (mkF m 18 #[.val (.int p0), .val (.int (XT.ushr p0 (8 : Int32))), .val (.int (p0 &&& (255 : Int32)))] [(.int (31 : Int32)), (.int (p0 &&& (255 : Int32)))])) _
        refine XS.icmpNo X0.here hx rfl (hb hby d2_18) rfl (XT.ii_gt_f hc18_4) ?_
        show Steps p.tables e below (s₁.setTop (mkF m 21 #[.val (.int p0), .val (.int (XT.ushr p0 (8 : Int32))), .val (.int (p0 &&& (255 : Int32)))] [])) _
        refine XT.iconstV X0.here hx rfl (1 : Int32) (hb hby d2_21) (by decide) ?_
        show Steps p.tables e below (s₁.setTop (mkF m 22 #[.val (.int p0), .val (.int (XT.ushr p0 (8 : Int32))), .val (.int (p0 &&& (255 : Int32)))] [(.int (1 : Int32))])) _
        exact k)
      obtain ⟨fs, hr, hrun, hended, hW, hsame⟩ := X0.leave (v := some (.int (1 : Int32))) (fun h => by rw [Bd.returns] at h; cases h)
      refine ⟨_, _, pre0 _ (S15 _ ?_), hrun, hended, _, _, rfl, ?_, ⟨_, rfl⟩, hW, hsame.mono (by decide) (by decide)⟩
      · exact retN X0 hx (t := .boolean) Bd.returns (by simp) (hb hby d2_22) hr
      · show QrmE Z p0 h0 n0 _ s₁.heap _
        rw [e0]
        exact ⟨by simp [own_ex, hc12_2, hc18_4], N0, rfl⟩
  · have S16 : ∀ t, Steps p.tables e below (s₁.setTop (mkF m 52 #[.val (.int p0), .val (.int (XT.ushr p0 (8 : Int32))), .val (.int (p0 &&& (255 : Int32)))] [(.int (32 : Int32)), (.int (XT.ushr p0 (8 : Int32)))])) t → Steps p.tables e below (s₁.setTop (mkF m 0 #[.val (.int p0), .unset, .unset] [])) t := fun t k => S1 t (by
      show Steps p.tables e below (s₁.setTop (mkF m 12 #[.val (.int p0), .val (.int (XT.ushr p0 (8 : Int32))), .val (.int (p0 &&& (255 : Int32)))] [(.int (XT.ushr p0 (8 : Int32)))])) _
      refine XS.ifYes X0.here hx rfl (pc0 := 12) (pc' := 49) rfl (hb hby d2_12) rfl (XT.i0_ne_t hc12_2) (by decide) (by decide) ?_
      show Steps p.tables e below (s₁.setTop (mkF m 49 #[.val (.int p0), .val (.int (XT.ushr p0 (8 : Int32))), .val (.int (p0 &&& (255 : Int32)))] [])) _
      refine XS.iloadN X0.here hx rfl (hb hby d2_49) rfl ?_
      show Steps p.tables e below (s₁.setTop (mkF m 50 #[.val (.int p0), .val (.int (XT.ushr p0 (8 : Int32))), .val (.int (p0 &&& (255 : Int32)))] [(.int (XT.ushr p0 (8 : Int32)))])) _
      refine XT.bipushV X0.here hx rfl (32 : Int32) (hb hby d2_50) (by decide) ?_
      show Steps p.tables e below (s₁.setTop (mkF m 52 #[.val (.int p0), .val (.int (XT.ushr p0 (8 : Int32))), .val (.int (p0 &&& (255 : Int32)))] [(.int (32 : Int32)), (.int (XT.ushr p0 (8 : Int32)))])) _
      exact k)
    by_cases hc52_17 : (XT.ushr p0 (8 : Int32)) = (32 : Int32)
    · have S18 : ∀ t, Steps p.tables e below (s₁.setTop (mkF m 58 #[.val (.int p0), .val (.int (XT.ushr p0 (8 : Int32))), .val (.int (p0 &&& (255 : Int32)))] [(.int (40 : Int32)), (.int (p0 &&& (255 : Int32)))])) t → Steps p.tables e below (s₁.setTop (mkF m 0 #[.val (.int p0), .unset, .unset] [])) t := fun t k => S16 t (by
        show Steps p.tables e below (s₁.setTop (mkF m 52 #[.val (.int p0), .val (.int (XT.ushr p0 (8 : Int32))), .val (.int (p0 &&& (255 : Int32)))] [(.int (32 : Int32)), (.int (XT.ushr p0 (8 : Int32)))])) _
        refine XS.icmpNo X0.here hx rfl (hb hby d2_52) rfl (XT.ii_ne_f hc52_17) ?_
        show Steps p.tables e below (s₁.setTop (mkF m 55 #[.val (.int p0), .val (.int (XT.ushr p0 (8 : Int32))), .val (.int (p0 &&& (255 : Int32)))] [])) _
        refine XS.iloadN X0.here hx rfl (hb hby d2_55) rfl ?_
        show Steps p.tables e below (s₁.setTop (mkF m 56 #[.val (.int p0), .val (.int (XT.ushr p0 (8 : Int32))), .val (.int (p0 &&& (255 : Int32)))] [(.int (p0 &&& (255 : Int32)))])) _
        refine XT.bipushV X0.here hx rfl (40 : Int32) (hb hby d2_56) (by decide) ?_
        show Steps p.tables e below (s₁.setTop (mkF m 58 #[.val (.int p0), .val (.int (XT.ushr p0 (8 : Int32))), .val (.int (p0 &&& (255 : Int32)))] [(.int (40 : Int32)), (.int (p0 &&& (255 : Int32)))])) _
        exact k)
      by_cases hc58_19 : (p0 &&& (255 : Int32)) = (40 : Int32)
      · have S20 : ∀ t, Steps p.tables e below (s₁.setTop (mkF m 72 #[.val (.int p0), .val (.int (XT.ushr p0 (8 : Int32))), .val (.int (p0 &&& (255 : Int32)))] [(.int (1 : Int32))])) t → Steps p.tables e below (s₁.setTop (mkF m 0 #[.val (.int p0), .unset, .unset] [])) t := fun t k => S18 t (by
          show Steps p.tables e below (s₁.setTop (mkF m 58 #[.val (.int p0), .val (.int (XT.ushr p0 (8 : Int32))), .val (.int (p0 &&& (255 : Int32)))] [(.int (40 : Int32)), (.int (p0 &&& (255 : Int32)))])) _
          refine XS.icmpYes X0.here hx rfl (pc0 := 58) (pc' := 67) rfl (hb hby d2_58) rfl (XT.ii_eq_t hc58_19) (by decide) (by decide) ?_
          show Steps p.tables e below (s₁.setTop (mkF m 67 #[.val (.int p0), .val (.int (XT.ushr p0 (8 : Int32))), .val (.int (p0 &&& (255 : Int32)))] [])) _
          refine XT.iconstV X0.here hx rfl (1 : Int32) (hb hby d2_67) (by decide) ?_
          show Steps p.tables e below (s₁.setTop (mkF m 68 #[.val (.int p0), .val (.int (XT.ushr p0 (8 : Int32))), .val (.int (p0 &&& (255 : Int32)))] [(.int (1 : Int32))])) _
          refine XS.goto X0.here hx rfl (pc0 := 68) (pc' := 72) rfl (hb hby d2_68) (by decide) (by decide) ?_
          show Steps p.tables e below (s₁.setTop (mkF m 72 #[.val (.int p0), .val (.int (XT.ushr p0 (8 : Int32))), .val (.int (p0 &&& (255 : Int32)))] [(.int (1 : Int32))])) _
          exact k)
        obtain ⟨fs, hr, hrun, hended, hW, hsame⟩ := X0.leave (v := some (.int (1 : Int32))) (fun h => by rw [Bd.returns] at h; cases h)
        refine ⟨_, _, pre0 _ (S20 _ ?_), hrun, hended, _, _, rfl, ?_, ⟨_, rfl⟩, hW, hsame.mono (by decide) (by decide)⟩
        · exact retN X0 hx (t := .boolean) Bd.returns (by simp) (hb hby d2_72) hr
        · show QrmE Z p0 h0 n0 _ s₁.heap _
          rw [e0]
          exact ⟨by simp [own_ex, hc12_2, hc52_17, hc58_19], N0, rfl⟩
      · have S21 : ∀ t, Steps p.tables e below (s₁.setTop (mkF m 64 #[.val (.int p0), .val (.int (XT.ushr p0 (8 : Int32))), .val (.int (p0 &&& (255 : Int32)))] [(.int (41 : Int32)), (.int (p0 &&& (255 : Int32)))])) t → Steps p.tables e below (s₁.setTop (mkF m 0 #[.val (.int p0), .unset, .unset] [])) t := fun t k => S18 t (by
          show Steps p.tables e below (s₁.setTop (mkF m 58 #[.val (.int p0), .val (.int (XT.ushr p0 (8 : Int32))), .val (.int (p0 &&& (255 : Int32)))] [(.int (40 : Int32)), (.int (p0 &&& (255 : Int32)))])) _
          refine XS.icmpNo X0.here hx rfl (hb hby d2_58) rfl (XT.ii_eq_f hc58_19) ?_
          show Steps p.tables e below (s₁.setTop (mkF m 61 #[.val (.int p0), .val (.int (XT.ushr p0 (8 : Int32))), .val (.int (p0 &&& (255 : Int32)))] [])) _
          refine XS.iloadN X0.here hx rfl (hb hby d2_61) rfl ?_
          show Steps p.tables e below (s₁.setTop (mkF m 62 #[.val (.int p0), .val (.int (XT.ushr p0 (8 : Int32))), .val (.int (p0 &&& (255 : Int32)))] [(.int (p0 &&& (255 : Int32)))])) _
          refine XT.bipushV X0.here hx rfl (41 : Int32) (hb hby d2_62) (by decide) ?_
          show Steps p.tables e below (s₁.setTop (mkF m 64 #[.val (.int p0), .val (.int (XT.ushr p0 (8 : Int32))), .val (.int (p0 &&& (255 : Int32)))] [(.int (41 : Int32)), (.int (p0 &&& (255 : Int32)))])) _
          exact k)
        by_cases hc64_22 : (p0 &&& (255 : Int32)) = (41 : Int32)
        · have S23 : ∀ t, Steps p.tables e below (s₁.setTop (mkF m 72 #[.val (.int p0), .val (.int (XT.ushr p0 (8 : Int32))), .val (.int (p0 &&& (255 : Int32)))] [(.int (1 : Int32))])) t → Steps p.tables e below (s₁.setTop (mkF m 0 #[.val (.int p0), .unset, .unset] [])) t := fun t k => S21 t (by
            show Steps p.tables e below (s₁.setTop (mkF m 64 #[.val (.int p0), .val (.int (XT.ushr p0 (8 : Int32))), .val (.int (p0 &&& (255 : Int32)))] [(.int (41 : Int32)), (.int (p0 &&& (255 : Int32)))])) _
            refine XS.icmpNo X0.here hx rfl (hb hby d2_64) rfl (XT.ii_ne_f hc64_22) ?_
            show Steps p.tables e below (s₁.setTop (mkF m 67 #[.val (.int p0), .val (.int (XT.ushr p0 (8 : Int32))), .val (.int (p0 &&& (255 : Int32)))] [])) _
            refine XT.iconstV X0.here hx rfl (1 : Int32) (hb hby d2_67) (by decide) ?_
            show Steps p.tables e below (s₁.setTop (mkF m 68 #[.val (.int p0), .val (.int (XT.ushr p0 (8 : Int32))), .val (.int (p0 &&& (255 : Int32)))] [(.int (1 : Int32))])) _
            refine XS.goto X0.here hx rfl (pc0 := 68) (pc' := 72) rfl (hb hby d2_68) (by decide) (by decide) ?_
            show Steps p.tables e below (s₁.setTop (mkF m 72 #[.val (.int p0), .val (.int (XT.ushr p0 (8 : Int32))), .val (.int (p0 &&& (255 : Int32)))] [(.int (1 : Int32))])) _
            exact k)
          obtain ⟨fs, hr, hrun, hended, hW, hsame⟩ := X0.leave (v := some (.int (1 : Int32))) (fun h => by rw [Bd.returns] at h; cases h)
          refine ⟨_, _, pre0 _ (S23 _ ?_), hrun, hended, _, _, rfl, ?_, ⟨_, rfl⟩, hW, hsame.mono (by decide) (by decide)⟩
          · exact retN X0 hx (t := .boolean) Bd.returns (by simp) (hb hby d2_72) hr
          · show QrmE Z p0 h0 n0 _ s₁.heap _
            rw [e0]
            exact ⟨by simp [own_ex, hc12_2, hc52_17, hc58_19, hc64_22], N0, rfl⟩
        · have S24 : ∀ t, Steps p.tables e below (s₁.setTop (mkF m 72 #[.val (.int p0), .val (.int (XT.ushr p0 (8 : Int32))), .val (.int (p0 &&& (255 : Int32)))] [(.int (0 : Int32))])) t → Steps p.tables e below (s₁.setTop (mkF m 0 #[.val (.int p0), .unset, .unset] [])) t := fun t k => S21 t (by
            show Steps p.tables e below (s₁.setTop (mkF m 64 #[.val (.int p0), .val (.int (XT.ushr p0 (8 : Int32))), .val (.int (p0 &&& (255 : Int32)))] [(.int (41 : Int32)), (.int (p0 &&& (255 : Int32)))])) _
            refine XS.icmpYes X0.here hx rfl (pc0 := 64) (pc' := 71) rfl (hb hby d2_64) rfl (XT.ii_ne_t hc64_22) (by decide) (by decide) ?_
            show Steps p.tables e below (s₁.setTop (mkF m 71 #[.val (.int p0), .val (.int (XT.ushr p0 (8 : Int32))), .val (.int (p0 &&& (255 : Int32)))] [])) _
            refine XT.iconstV X0.here hx rfl (0 : Int32) (hb hby d2_71) (by decide) ?_
            show Steps p.tables e below (s₁.setTop (mkF m 72 #[.val (.int p0), .val (.int (XT.ushr p0 (8 : Int32))), .val (.int (p0 &&& (255 : Int32)))] [(.int (0 : Int32))])) _
            exact k)
          obtain ⟨fs, hr, hrun, hended, hW, hsame⟩ := X0.leave (v := some (.int (0 : Int32))) (fun h => by rw [Bd.returns] at h; cases h)
          refine ⟨_, _, pre0 _ (S24 _ ?_), hrun, hended, _, _, rfl, ?_, ⟨_, rfl⟩, hW, hsame.mono (by decide) (by decide)⟩
          · exact retN X0 hx (t := .boolean) Bd.returns (by simp) (hb hby d2_72) hr
          · show QrmE Z p0 h0 n0 _ s₁.heap _
            rw [e0]
            exact ⟨by simp [own_ex, hc12_2, hc52_17, hc58_19, hc64_22], N0, rfl⟩
    · have S25 : ∀ t, Steps p.tables e below (s₁.setTop (mkF m 74 #[.val (.int p0), .val (.int (XT.ushr p0 (8 : Int32))), .val (.int (p0 &&& (255 : Int32)))] [(.int (0 : Int32))])) t → Steps p.tables e below (s₁.setTop (mkF m 0 #[.val (.int p0), .unset, .unset] [])) t := fun t k => S16 t (by
        show Steps p.tables e below (s₁.setTop (mkF m 52 #[.val (.int p0), .val (.int (XT.ushr p0 (8 : Int32))), .val (.int (p0 &&& (255 : Int32)))] [(.int (32 : Int32)), (.int (XT.ushr p0 (8 : Int32)))])) _
        refine XS.icmpYes X0.here hx rfl (pc0 := 52) (pc' := 73) rfl (hb hby d2_52) rfl (XT.ii_ne_t hc52_17) (by decide) (by decide) ?_
        show Steps p.tables e below (s₁.setTop (mkF m 73 #[.val (.int p0), .val (.int (XT.ushr p0 (8 : Int32))), .val (.int (p0 &&& (255 : Int32)))] [])) _
        refine XT.iconstV X0.here hx rfl (0 : Int32) (hb hby d2_73) (by decide) ?_
        show Steps p.tables e below (s₁.setTop (mkF m 74 #[.val (.int p0), .val (.int (XT.ushr p0 (8 : Int32))), .val (.int (p0 &&& (255 : Int32)))] [(.int (0 : Int32))])) _
        exact k)
      obtain ⟨fs, hr, hrun, hended, hW, hsame⟩ := X0.leave (v := some (.int (0 : Int32))) (fun h => by rw [Bd.returns] at h; cases h)
      refine ⟨_, _, pre0 _ (S25 _ ?_), hrun, hended, _, _, rfl, ?_, ⟨_, rfl⟩, hW, hsame.mono (by decide) (by decide)⟩
      · exact retN X0 hx (t := .boolean) Bd.returns (by simp) (hb hby d2_74) hr
      · show QrmE Z p0 h0 n0 _ s₁.heap _
        rw [e0]
        exact ⟨by simp [own_ex, hc12_2, hc52_17], N0, rfl⟩
theorem pd__C_Z : parseMethodDescriptor "(C)Z" = some ⟨[.char], some .boolean⟩ := by decide +kernel
theorem pd__I_Z : parseMethodDescriptor "(I)Z" = some ⟨[.int], some .boolean⟩ := by decide +kernel
def Qrm0 (Z : State) (p0 : Int32) (h0 : Heap) (n0 : Nat) (v : Option Value) (h : Heap) (L : List Loc) : Prop := v = some (.int 1) ∧ Fr n0 L
set_option maxRecDepth 65536 in
set_option maxHeartbeats 40000000 in
theorem rm0 (l : Launch) (Z : State) (av0 : Array Value) (hw : ∀ d ∈ tables_1, d.before av0 Z = true) (ws : List Jvm.Cond) (p0 : Int32) (h0 : Heap) (n0 : Nat) (Z0 : n0 ≤ h0.size)  :
    MetFree l x (head1 (Jvm.Cond.code x code maxLocals ret :: ws) room_1) (fun a U => a = #[(.int p0)] ∧ Z.Warmed39 U.vm ∧ U.heap = h0) (fun _ _ _ _ _ => True) (fun _ U o U' => ∃ v L, o = .returned v ∧ Qrm0 Z p0 h0 n0 v U'.heap L ∧ FrameEnd U o U' L room_1.cells room_1.slots) := by
  refine MetFree.of_bodySF (plainFor_of_name pn_DiagnosticBreaksLinePinLaw) hisR ?_
  intro p e s m args below meth c s₁ Bd hml0 hP hK
  obtain ⟨rfl, hZ, hh⟩ := hP
  have hx := Bd.exec
  have hby := Bd.bytes
  have hml : c.maxLocals = 3 := hml0
  have hown : s.vm.findClass "com/example/headwater/headwater/core/DiagnosticBreaksLinePinLaw" = some m.cls := findClass_of_methodNamed Bd.named
  have hnm := (name_of_methodNamed Bd.named Bd.method).1
  have X0 : Stand p l e room_1 s m #[(.int p0)] below meth c s₁ [] 0 0 := Stand.of_body Bd
  have e0 : s₁.heap = h0 := by rw [← hh, Bd.state]; rfl
  have N0 := Fr.nil n0
  have pre0 : ∀ t, Steps p.tables e below (s₁.setTop (mkF m 0 #[.val (.int p0), .unset, .unset] [])) t → Steps p.tables e below (s₁.setTop (entryFrame m #[(.int p0)] maxLocals)) t := fun t k => castTop (by first | (simp [entryFrame, mkF, argsToLocals, Value.category, maxLocals]; done) | rfl) k
  obtain ⟨_, _, ⟨T1, L1, k1, n1⟩, -, X1, ⟨Lc1, hQ1, l1, y1, z1⟩, st1⟩ := Jvm.LawKit.callS X0 hx (y := (⟨"com/example/headwater/headwater/core/Diagnostic", "breaksLine", "(C)Z"⟩ : MethodName)) hown (mvT hZ (hw _ (List.mem_of_getElem? (i := 1) rfl))) (mvT hZ (hw _ (List.mem_of_getElem? (i := 2) rfl))) (mvT hZ (hw _ (List.mem_of_getElem? (i := 3) rfl))) (mvT hZ (hw _ (List.mem_of_getElem? (i := 4) rfl))) (by decide) (backOf (W := 0) (rmB l Z av0 hw [] ((p0 &&& (65535 : Int32))).toUInt32.toUInt16.toUInt32.toInt32 h0 n0 Z0) hZ (hw _ (List.mem_of_getElem? (i := 4) rfl)) (hw _ (List.mem_of_getElem? (i := 3) rfl)) (by decide) (by decide)) (g := (mkF m 9 #[.val (.int p0), .val (.int (p0 &&& (65535 : Int32))), .val (.int ((p0 &&& (65535 : Int32))).toUInt32.toUInt16.toUInt32.toInt32)] [(.int ((p0 &&& (65535 : Int32))).toUInt32.toUInt16.toUInt32.toInt32)])) rfl (by rw [hml]; rfl) (argsL := [(.int ((p0 &&& (65535 : Int32))).toUInt32.toUInt16.toUInt32.toInt32)]) (rest := []) (lenOf pd__C_Z rfl) rfl (by show 2 * 0 + _ ≤ _; exact Nat.le_of_eq rfl) (hb hby at_9) (fun _ _ => ⟨rfl, e0, (by decide : 0 + 0 ≤ _), (by decide : 0 + 0 ≤ _)⟩)
  dsimp only [Pt.U, Pt.locs, Pt.cells, Pt.slots] at X1 l1 y1 z1 st1 hQ1
  subst l1 y1 z1
  obtain ⟨rfl, N1q, hh1⟩ := hQ1
  have N1 := Fr.app N0 N1q
  have e1 : T1.heap = h0 := hh1
  obtain ⟨_, _, ⟨T2, L2, k2, n2⟩, -, X2, ⟨Lc2, hQ2, l2, y2, z2⟩, st2⟩ := Jvm.LawKit.callS X1 hx (y := (⟨"com/example/headwater/headwater/core/DiagnosticBreaksLinePinLaw", "expected", "(I)Z"⟩ : MethodName)) hown (mvT hZ (hw _ (List.mem_of_getElem? (i := 5) rfl))) (mvT hZ (hw _ (List.mem_of_getElem? (i := 6) rfl))) (mvT hZ (hw _ (List.mem_of_getElem? (i := 7) rfl))) (mvT hZ (hw _ (List.mem_of_getElem? (i := 8) rfl))) (by decide) (backOf (W := 1) (rmE l Z av0 hw [] (p0 &&& (65535 : Int32)) h0 n0 Z0) hZ (hw _ (List.mem_of_getElem? (i := 8) rfl)) (hw _ (List.mem_of_getElem? (i := 7) rfl)) (by decide) (by decide)) (g := (mkF m 13 #[.val (.int p0), .val (.int (p0 &&& (65535 : Int32))), .val (.int ((p0 &&& (65535 : Int32))).toUInt32.toUInt16.toUInt32.toInt32)] [(.int (p0 &&& (65535 : Int32))), (.int (own_bl ((p0 &&& (65535 : Int32))).toUInt32.toUInt16.toUInt32.toInt32))])) rfl (by rw [hml]; rfl) (argsL := [(.int (p0 &&& (65535 : Int32)))]) (rest := [(.int (own_bl ((p0 &&& (65535 : Int32))).toUInt32.toUInt16.toUInt32.toInt32))]) (lenOf pd__I_Z rfl) rfl (by show 2 * 0 + _ ≤ _; exact Nat.le_of_eq rfl) (hb hby at_13) (fun _ _ => ⟨rfl, e1, (by decide : 0 + 0 ≤ _), (by decide : 0 + 0 ≤ _)⟩)
  dsimp only [Pt.U, Pt.locs, Pt.cells, Pt.slots] at X2 l2 y2 z2 st2 hQ2
  subst l2 y2 z2
  obtain ⟨rfl, N2q, hh2⟩ := hQ2
  have N2 := Fr.app N1 N2q
  have e2 : T2.heap = h0 := hh2
  have S3 : ∀ t, Steps p.tables e below (T2.setTop (mkF m 24 #[.val (.int p0), .val (.int (p0 &&& (65535 : Int32))), .val (.int ((p0 &&& (65535 : Int32))).toUInt32.toUInt16.toUInt32.toInt32)] [(.int (1 : Int32))])) t → Steps p.tables e below (s₁.setTop (mkF m 0 #[.val (.int p0), .unset, .unset] [])) t := fun t k => id (by
    show Steps p.tables e below (s₁.setTop (mkF m 0 #[.val (.int p0), .unset, .unset] [])) _
    refine XS.iloadN X0.here hx rfl (hb hby at_0) rfl ?_
    show Steps p.tables e below (s₁.setTop (mkF m 1 #[.val (.int p0), .unset, .unset] [(.int p0)])) _
    refine X0.ldcI hx hown (mvT hZ (hw _ (List.mem_of_getElem? (i := 0) rfl))) rfl (hb hby at_1) ?_
    show Steps p.tables e below (s₁.setTop (mkF m 3 #[.val (.int p0), .unset, .unset] [(.int (65535 : Int32)), (.int p0)])) _
    refine XS.iand X0.here hx rfl (hb hby at_3) rfl ?_
    show Steps p.tables e below (s₁.setTop (mkF m 4 #[.val (.int p0), .unset, .unset] [(.int (p0 &&& (65535 : Int32)))])) _
    refine XS.istoreN X0.here hx rfl (hb hby at_4) rfl (l' := #[.val (.int p0), .val (.int (p0 &&& (65535 : Int32))), .unset]) rfl ?_
    show Steps p.tables e below (s₁.setTop (mkF m 5 #[.val (.int p0), .val (.int (p0 &&& (65535 : Int32))), .unset] [])) _
    refine XS.iloadN X0.here hx rfl (hb hby at_5) rfl ?_
    show Steps p.tables e below (s₁.setTop (mkF m 6 #[.val (.int p0), .val (.int (p0 &&& (65535 : Int32))), .unset] [(.int (p0 &&& (65535 : Int32)))])) _
    refine XT.i2c X0.here hx rfl (hb hby at_6) rfl ?_
    show Steps p.tables e below (s₁.setTop (mkF m 7 #[.val (.int p0), .val (.int (p0 &&& (65535 : Int32))), .unset] [(.int ((p0 &&& (65535 : Int32))).toUInt32.toUInt16.toUInt32.toInt32)])) _
    refine XS.istoreN X0.here hx rfl (hb hby at_7) rfl (l' := #[.val (.int p0), .val (.int (p0 &&& (65535 : Int32))), .val (.int ((p0 &&& (65535 : Int32))).toUInt32.toUInt16.toUInt32.toInt32)]) rfl ?_
    show Steps p.tables e below (s₁.setTop (mkF m 8 #[.val (.int p0), .val (.int (p0 &&& (65535 : Int32))), .val (.int ((p0 &&& (65535 : Int32))).toUInt32.toUInt16.toUInt32.toInt32)] [])) _
    refine XS.iloadN X0.here hx rfl (hb hby at_8) rfl ?_
    show Steps p.tables e below (s₁.setTop (mkF m 9 #[.val (.int p0), .val (.int (p0 &&& (65535 : Int32))), .val (.int ((p0 &&& (65535 : Int32))).toUInt32.toUInt16.toUInt32.toInt32)] [(.int ((p0 &&& (65535 : Int32))).toUInt32.toUInt16.toUInt32.toInt32)])) _
    refine st1 _ ?_
    show Steps p.tables e below (T1.setTop (mkF m 12 #[.val (.int p0), .val (.int (p0 &&& (65535 : Int32))), .val (.int ((p0 &&& (65535 : Int32))).toUInt32.toUInt16.toUInt32.toInt32)] [(.int (own_bl ((p0 &&& (65535 : Int32))).toUInt32.toUInt16.toUInt32.toInt32))])) _
    refine XS.iloadN X1.here hx rfl (hb hby at_12) rfl ?_
    show Steps p.tables e below (T1.setTop (mkF m 13 #[.val (.int p0), .val (.int (p0 &&& (65535 : Int32))), .val (.int ((p0 &&& (65535 : Int32))).toUInt32.toUInt16.toUInt32.toInt32)] [(.int (p0 &&& (65535 : Int32))), (.int (own_bl ((p0 &&& (65535 : Int32))).toUInt32.toUInt16.toUInt32.toInt32))])) _
    refine st2 _ ?_
    show Steps p.tables e below (T2.setTop (mkF m 16 #[.val (.int p0), .val (.int (p0 &&& (65535 : Int32))), .val (.int ((p0 &&& (65535 : Int32))).toUInt32.toUInt16.toUInt32.toInt32)] [(.int (own_ex (p0 &&& (65535 : Int32)))), (.int (own_bl ((p0 &&& (65535 : Int32))).toUInt32.toUInt16.toUInt32.toInt32))])) _
    refine XS.icmpNo X2.here hx rfl (hb hby at_16) rfl (XT.ii_ne_f (own_key p0)) ?_
    show Steps p.tables e below (T2.setTop (mkF m 19 #[.val (.int p0), .val (.int (p0 &&& (65535 : Int32))), .val (.int ((p0 &&& (65535 : Int32))).toUInt32.toUInt16.toUInt32.toInt32)] [])) _
    refine XT.iconstV X2.here hx rfl (1 : Int32) (hb hby at_19) (by decide) ?_
    show Steps p.tables e below (T2.setTop (mkF m 20 #[.val (.int p0), .val (.int (p0 &&& (65535 : Int32))), .val (.int ((p0 &&& (65535 : Int32))).toUInt32.toUInt16.toUInt32.toInt32)] [(.int (1 : Int32))])) _
    refine XS.goto X2.here hx rfl (pc0 := 20) (pc' := 24) rfl (hb hby at_20) (by decide) (by decide) ?_
    show Steps p.tables e below (T2.setTop (mkF m 24 #[.val (.int p0), .val (.int (p0 &&& (65535 : Int32))), .val (.int ((p0 &&& (65535 : Int32))).toUInt32.toUInt16.toUInt32.toInt32)] [(.int (1 : Int32))])) _
    exact k)
  obtain ⟨fs, hr, hrun, hended, hW, hsame⟩ := X2.leave (v := some (.int (1 : Int32))) (fun h => by rw [Bd.returns] at h; cases h)
  refine ⟨_, _, pre0 _ (S3 _ ?_), hrun, hended, _, _, rfl, ?_, ⟨_, rfl⟩, hW, hsame.mono (by decide) (by decide)⟩
  · exact retN X2 hx (t := .boolean) Bd.returns (by simp) (hb hby at_24) hr
  · show Qrm0 Z p0 h0 n0 _ T2.heap _
    rw [e2]
    exact ⟨rfl, N2⟩
set_option maxRecDepth 65536 in
set_option maxHeartbeats 40000000 in
theorem comes_1 {Post : Tables → Env → Array Value → State → Outcome → State → Prop} (hpost : ∀ tb e args s v u, (limb_1_1.after args s (.returned v) u = true ∧ limb_1_2.after args s (.returned v) u = true ∧ True) → FrameEnd s (.returned v) u (Jvm.fieldLocs frame_1_writes args s ++ Jvm.arrayLocs frame_1_arrays args s ++ Jvm.staticLocs frame_1_statics s) 0 0 → Post tb e args s (.returned v) u) :
    ArmFor flags0 classFile x code maxLocals ret World_1 tables_1 room_1 Calls_1 rest_1 Pre_1 Post := by
  intro l hfl _ _ p e ha hc hk s m args below hf hA hF happ hP
  obtain ⟨hcalls, hrest, hpre⟩ := hP
  obtain ⟨-, -, -, hnamed, -, -, -, hat⟩ := (Spec.applies_iff hf).mp happ
  obtain ⟨hg, hn⟩ := and_e (Cond.before_iff.mp (show (Jvm.Cond.and given_1 narrow_1).before args s = true from hpre))
  obtain ⟨g0, r0⟩ := and_e hg
  obtain ⟨w0, rfl⟩ : ∃ w0 : Value, args = #[w0] := by
    have hs : args.size = 1 := by simpa [Cond.value, given_1] using g0
    obtain ⟨L⟩ := args
    match L, hs with
    | [w0], _ => exact ⟨w0, rfl⟩
  have hw := fun d (hd : d ∈ tables_1) => atoms_spec (ws := Jvm.Cond.code x code maxLocals ret :: tables_1) hat d (List.mem_cons_of_mem _ hd)
  have hfit : Fit s := fun {y c} hc i hi => by
    obtain ⟨ha, rfl⟩ := Array.getElem?_eq_some_iff.mp hc
    have q := List.all_eq_true.mp ((Array.all_eq_true_iff_forall_mem.mp hF) _ (Array.getElem_mem ha)) i (List.mem_range.mpr hi)
    simpa [Array.getElem?_eq_getElem hi] using q
  obtain ⟨i0, ei0⟩ := is_v r0
  obtain rfl : w0 = (.int i0) := Option.some.inj ei0
  obtain ⟨n, o, h1, h2, h3, _, L, rfl, ⟨rfl, N⟩, hq⟩ := rm0 l s _ hw tables_1 i0 s.heap s.heap.size (Nat.le_refl _)  p e ha hc hk s m _ below hf ((Spec.applies_iff_loose hf).mp happ).1 ⟨rfl, State.Warmed39.refl s, rfl⟩ trivial
  refine ⟨n, _, h1, h2, h3, hpost _ _ _ _ _ _ ⟨Cond.after_iff.mpr rfl, Cond.after_iff.mpr (eq_i res_at (Term.int_eval (1)) rfl), trivial⟩ ⟨hq.1, hq.2.1, (hq.2.2.sift fun y hy => Or.inr (N y hy)).mono (by decide) (by decide)⟩⟩
theorem main_1_1 : Claimed_1_1 := comes_1 fun _ _ _ _ _ _ h hF => ⟨h.1, hF⟩
theorem main_1_2 : Claimed_1_2 := comes_1 fun _ _ _ _ _ _ h hF => ⟨h.2.1, hF⟩
end Jvm.Pilot.@@N@@
namespace Jvm.Pilot.@@N@@
open Jvm Jvm.ClassFile Sem Op Lib Jvm.Free Jvm.Stand Jvm.Pilot.@@N@@.Jvm.D
/-! MADE BY PROGRAM (witnessworld.py) out of the Statement's table words and the real class files: 10 classes; the members and pool entries that the words name. The judged class is class 1, her method 2. -/
namespace start1
open Jvm.ClassFile
def u (s : String) : CpInfo := .utf8 (stringToUtf16 s)
/-- a pool by its gaps: so many unusable entries, then the entry; so many at the end -/
def gap : Nat → List CpInfo → List CpInfo
  | 0, r => r
  | n + 1, r => .unusable :: gap n r
def poolList (es : List (Nat × CpInfo)) (last : Nat) : List CpInfo := es.foldr (fun e r => gap e.1 (e.2 :: r)) (gap last [])
def pool (es : List (Nat × CpInfo)) (last : Nat) : Array CpInfo := ⟨poolList es last⟩
def fileOf (pool : Array CpInfo) (this : Nat) (attrs : Array Attribute := #[]) (ms : Array MethodInfo := #[]) (fl : Nat := 33) (sup : Nat := 0) (ifs : Array Nat := #[]) (fds : Array FieldInfo := #[]) : ClassFile where
  minorVersion := 0
  majorVersion := 65
  constantPool := pool
  accessFlags := fl
  thisClass := this
  superClass := sup
  interfaces := ifs
  fields := fds
  methods := ms
  attributes := attrs
def plain (name : String) (sup : Option ClassId) : Class where
  name := name
  kind := .ordinary
  loader := none
  accessFlags := 33
  super := sup
  interfaces := #[]
  cf := none
  fields := #[]
  methods := #[]
  instanceTypes := #[]
  staticTypes := #[]
  resolved := #[]
  callSites := []
  init := .initialized
  statics := none
  mirror := none

def pool0 : Array CpInfo := pool [(5, u "<init>"), (0, u "()V"), (1, .class_ 10), (1, u "java/lang/Object")] 113

def k0m0 : Method := { name := "<init>", desc := "()V", sig := { parameters := [], returnType := none }, accessFlags := 1, code := none }
/-- java/lang/Object -/
def k0 : Class := { plain "java/lang/Object" none with
  accessFlags := 33
  interfaces := #[]
  cf := some (fileOf pool0 8 #[] #[{ accessFlags := 1, nameIndex := 5, descriptorIndex := 6, attributes := #[] }] 33 0 #[] #[])
  fields := #[]
  methods := #[k0m0]
  instanceTypes := #[]
  staticTypes := #[]
  resolved := Array.replicate 124 none
  statics := none }

def pool1 : Array CpInfo := pool [(2, .class_ 4), (1, u "java/lang/Object"), (0, u "<init>"), (0, u "()V"), (0, .integer 65535), (0, .methodref 9 10), (0, .class_ 11), (0, .nameAndType 12 13), (0, u "com/example/headwater/headwater/core/Diagnostic"), (0, u "breaksLine"), (0, u "(C)Z"), (0, .methodref 15 16), (0, .class_ 17), (0, .nameAndType 18 19), (0, u "com/example/headwater/headwater/core/DiagnosticBreaksLinePinLaw"), (0, u "expected"), (0, u "(I)Z"), (3, u "law")] 2

def k1m0 : Method := { name := "<init>", desc := "()V", sig := { parameters := [], returnType := none }, accessFlags := 2, code := none }
def k1c1 : Code := { maxStack := 2, maxLocals := 3, code := method_2_code, exceptionTable := #[], attributes := #[] }
def k1m1 : Method := { name := "expected", desc := "(I)Z", sig := { parameters := [.int], returnType := some .boolean }, accessFlags := 10, code := some k1c1 }
def k1c2 : Code := { maxStack := 2, maxLocals := 3, code := code, exceptionTable := #[], attributes := #[] }
def k1m2 : Method := { name := "law", desc := "(I)Z", sig := { parameters := [.int], returnType := some .boolean }, accessFlags := 9, code := some k1c2 }
/-- com/example/headwater/headwater/core/DiagnosticBreaksLinePinLaw -/
def k1 : Class := { plain "com/example/headwater/headwater/core/DiagnosticBreaksLinePinLaw" (some 0) with
  accessFlags := 49
  interfaces := #[]
  cf := some (fileOf pool1 15 #[] #[{ accessFlags := 2, nameIndex := 5, descriptorIndex := 6, attributes := #[] }, { accessFlags := 10, nameIndex := 18, descriptorIndex := 19, attributes := #[] }, { accessFlags := 9, nameIndex := 23, descriptorIndex := 19, attributes := #[] }] 49 2 #[] #[])
  fields := #[]
  methods := #[k1m0, k1m1, k1m2]
  instanceTypes := #[]
  staticTypes := #[]
  resolved := Array.replicate 26 none
  statics := none }

def pool2 : Array CpInfo := pool [(2, .class_ 4), (1, u "java/lang/Object"), (0, u "<init>"), (0, u "()V"), (0, .class_ 8), (0, u "java/lang/Record")] 13

def k2m0 : Method := { name := "<init>", desc := "()V", sig := { parameters := [], returnType := none }, accessFlags := 4, code := none }
/-- java/lang/Record -/
def k2 : Class := { plain "java/lang/Record" (some 0) with
  accessFlags := 1057
  interfaces := #[]
  cf := some (fileOf pool2 7 #[] #[{ accessFlags := 4, nameIndex := 5, descriptorIndex := 6, attributes := #[] }] 1057 2 #[] #[])
  fields := #[]
  methods := #[k2m0]
  instanceTypes := #[]
  staticTypes := #[]
  resolved := Array.replicate 22 none
  statics := none }

def pool3 : Array CpInfo := pool [(2, .class_ 4), (1, u "java/lang/Record"), (3, .class_ 10), (1, u "com/example/headwater/headwater/core/Diagnostic"), (4, u "file"), (0, u "Ljava/nio/file/Path;"), (2, u "line"), (0, u "I"), (2, u "severity"), (0, u "Lcom/example/headwater/headwater/core/Diagnostic$Severity;"), (2, u "code"), (0, u "Ljava/lang/String;"), (2, u "text"), (1, .class_ 35), (1, u "com/example/headwater/headwater/core/Diagnostic$Severity"), (66, u "breaksLine"), (0, u "(C)Z"), (21, u "CANNOT_READ")] 47

def k3c0 : Code := { maxStack := 2, maxLocals := 1, code := prog_16_method_6_code, exceptionTable := #[], attributes := #[] }
def k3m0 : Method := { name := "breaksLine", desc := "(C)Z", sig := { parameters := [.char], returnType := some .boolean }, accessFlags := 8, code := some k3c0 }
/-- com/example/headwater/headwater/core/Diagnostic -/
def k3 : Class := { plain "com/example/headwater/headwater/core/Diagnostic" (some 2) with
  accessFlags := 49
  interfaces := #[]
  cf := some (fileOf pool3 8 #[.nestMembers #[33]] #[{ accessFlags := 8, nameIndex := 102, descriptorIndex := 103, attributes := #[] }] 49 2 #[] #[{ accessFlags := 18, nameIndex := 15, descriptorIndex := 16, attributes := #[] }, { accessFlags := 18, nameIndex := 19, descriptorIndex := 20, attributes := #[] }, { accessFlags := 18, nameIndex := 23, descriptorIndex := 24, attributes := #[] }, { accessFlags := 18, nameIndex := 27, descriptorIndex := 28, attributes := #[] }, { accessFlags := 18, nameIndex := 31, descriptorIndex := 28, attributes := #[] }, { accessFlags := 25, nameIndex := 125, descriptorIndex := 28, attributes := #[] }])
  fields := #[{ name := "file", type := (.object "java/nio/file/Path"), accessFlags := 18, slot := 0, constantValue := 0 }, { name := "line", type := .int, accessFlags := 18, slot := 1, constantValue := 0 }, { name := "severity", type := (.object "com/example/headwater/headwater/core/Diagnostic$Severity"), accessFlags := 18, slot := 2, constantValue := 0 }, { name := "code", type := (.object "java/lang/String"), accessFlags := 18, slot := 3, constantValue := 0 }, { name := "text", type := (.object "java/lang/String"), accessFlags := 18, slot := 4, constantValue := 0 }, { name := "CANNOT_READ", type := (.object "java/lang/String"), accessFlags := 25, slot := 0, constantValue := 0 }]
  methods := #[k3m0]
  instanceTypes := #[(.object "java/nio/file/Path"), .int, (.object "com/example/headwater/headwater/core/Diagnostic$Severity"), (.object "java/lang/String"), (.object "java/lang/String")]
  staticTypes := #[(.object "java/lang/String")]
  resolved := Array.replicate 173 none
  statics := none }

def pool4 : Array CpInfo := pool [(1, u "java/lang/Cloneable"), (0, .class_ 1), (0, u "java/lang/Object"), (0, .class_ 3)] 3

/-- java/lang/Cloneable -/
def k4 : Class := { plain "java/lang/Cloneable" (some 0) with
  accessFlags := 1537
  interfaces := #[]
  cf := some (fileOf pool4 2 #[] #[] 1537 4 #[] #[])
  fields := #[]
  methods := #[]
  instanceTypes := #[]
  staticTypes := #[]
  resolved := Array.replicate 8 none
  statics := none }

def pool5 : Array CpInfo := pool [(1, u "java/io/Serializable"), (0, .class_ 1), (0, u "java/lang/Object"), (0, .class_ 3)] 3

/-- java/io/Serializable -/
def k5 : Class := { plain "java/io/Serializable" (some 0) with
  accessFlags := 1537
  interfaces := #[]
  cf := some (fileOf pool5 2 #[] #[] 1537 4 #[] #[])
  fields := #[]
  methods := #[]
  instanceTypes := #[]
  staticTypes := #[]
  resolved := Array.replicate 8 none
  statics := none }

/-- the primitive byte -/
def k6 : Class := { plain "byte" none with kind := .primitive 'B', accessFlags := 0x411 }
/-- [B -/
def k7 : Class := { plain "[B" (some 0) with kind := .array 6 .byte, interfaces := #[4, 5], accessFlags := 1041 }

/-- the primitive int -/
def k8 : Class := { plain "int" none with kind := .primitive 'I', accessFlags := 0x411 }
/-- [I -/
def k9 : Class := { plain "[I" (some 0) with kind := .array 8 .int, interfaces := #[4, 5], accessFlags := 1041 }

def heap : Heap := #[]
def classes : Array Class := #[k0, k1, k2, k3, k4, k5, k6, k7, k8, k9]
def interned : List (Array UInt16 × Addr) := []
def slotsUsed : Nat := 0
def theMethod : MethodId := ⟨1, 2⟩
def args0 : Array Value := #[.int 8232]
def aboutOver (below : List Frame) : State where
  vm := { classes := classes, interned := interned.toArray }
  heap := heap
  slotsUsed := slotsUsed
  threads := #[{ frames := .invoking theMethod args0 :: below }]
def below0 : List Frame := [.native { method := ⟨0, 0⟩, args := #[] }]
def about1 : State := aboutOver below0
def p0 : Program := .bare "" "" ""
def e0 : Env := launch0.env 0 0 0
theorem w_frames : about1.frames = Frame.invoking theMethod args0 :: below0 := rfl
set_option maxRecDepth 65536 in
theorem w_args : argsFit about1.vm theMethod args0 = true := by decide +kernel
set_option maxRecDepth 65536 in
theorem w_heap : heapFits about1 = true := by decide +kernel
set_option maxRecDepth 65536 in
theorem w_runnable : about1.curStatus? = some .runnable := by decide +kernel
set_option maxRecDepth 65536 in
theorem w_alone : about1.alone = true := by decide +kernel
set_option maxRecDepth 65536 in
theorem w_named : about1.methodNamed? x = some theMethod := by decide +kernel
set_option maxRecDepth 65536 in
theorem w_hears : about1.hears theMethod below0 = true := by decide +kernel
set_option maxRecDepth 65536 in
theorem w_ripe : about1.ripe theMethod args0 below0 = true := by decide +kernel
theorem w_running : about1.status = .running := rfl
set_option maxRecDepth 65536 in
theorem w_room : about1.hasRoom e0.platform room_1 = true :=
  launch0.hasRoom_least _ room_1 (by decide +kernel) (by decide +kernel) (by decide +kernel) (by decide +kernel) (by decide +kernel) (by decide +kernel)
theorem allAtoms_all (ts : List Jvm.Cond) (a : Array Jvm.Value) (st : Jvm.State) : (allAtoms ts).before a st = ts.all (fun c => c.before a st) := by
  induction ts with
  | nil => rfl
  | cons c t ih =>
    show (Jvm.Cond.and c (allAtoms t)).before a st = _
    rw [Jvm.Cond.before_and, ih, List.all_cons]
def words1 : List Jvm.Cond := Jvm.Cond.code x code maxLocals ret :: tables_1
/-- a 'code' word, met by the world's own term for the bytes: nothing is compared byte by byte -/
theorem code_word {y : MethodName} {bytes : ByteArray} {mx : Nat} {rt : Option FieldType} {a : Array Value} {s : State} {m : MethodId} {meth : Method} {c : Code} (h1 : s.methodNamed? y = some m) (h2 : s.vm.method? m = some meth) (h3 : meth.code = some c) (h4 : c.code = bytes)
    (h5 : (c.maxLocals == mx && c.exceptionTable.isEmpty && decide (c.maxStack ≤ mostOperands) && decide (meth.sig.returnType = rt) && !meth.locks && decide (parseMethodDescriptor y.desc = some meth.sig)) = true) : (Jvm.Cond.code y bytes mx rt).before a s = true := by
  simp only [Bool.and_eq_true, beq_iff_eq, Bool.not_eq_true', decide_eq_true_eq] at h5
  obtain ⟨⟨⟨⟨⟨g1, g2⟩, g3⟩, g4⟩, g5⟩, g6⟩ := h5
  simp [Cond.before, Cond.holds, Cond.value, h1, h2, h3, h4, g1, g2, g3, g4, g5, g6]
def isCode : Jvm.Cond → Bool
  | .code _ _ _ _ => true
  | _ => false
theorem all_split {L : List Jvm.Cond} {P : Jvm.Cond → Bool} (h1 : L.all (fun c => isCode c || P c) = true) (h2 : ∀ c ∈ L.filter isCode, P c = true) : L.all P = true := by
  refine List.all_eq_true.mpr fun c hc => ?_
  have h := List.all_eq_true.mp h1 c hc
  rcases Bool.eq_false_or_eq_true (isCode c) with hi | hi
  · exact h2 c (List.mem_filter.mpr ⟨hc, hi⟩)
  · simpa [hi] using h
set_option maxRecDepth 65536 in
theorem w_c0 : (Jvm.Cond.code x code maxLocals ret).before args0 about1 = true := code_word (m := ⟨1, 2⟩) (meth := k1m2) (c := k1c2) (by decide +kernel) rfl rfl rfl (by decide +kernel)
set_option maxRecDepth 65536 in
theorem w_c1 : (Jvm.Cond.code ({ cls := "com/example/headwater/headwater/core/Diagnostic", name := "breaksLine", desc := "(C)Z" } : Jvm.MethodName) prog_16_method_6_code (1 : Nat) (Option.some Jvm.ClassFile.FieldType.boolean)).before args0 about1 = true := code_word (m := ⟨3, 0⟩) (meth := k3m0) (c := k3c0) (by decide +kernel) rfl rfl rfl (by decide +kernel)
set_option maxRecDepth 65536 in
theorem w_c2 : (Jvm.Cond.code ({ cls := "com/example/headwater/headwater/core/DiagnosticBreaksLinePinLaw", name := "expected", desc := "(I)Z" } : Jvm.MethodName) method_2_code (3 : Nat) (Option.some Jvm.ClassFile.FieldType.boolean)).before args0 about1 = true := code_word (m := ⟨1, 1⟩) (meth := k1m1) (c := k1c1) (by decide +kernel) rfl rfl rfl (by decide +kernel)
def codes1 : List Jvm.Cond := [Jvm.Cond.code x code maxLocals ret, Jvm.Cond.code ({ cls := "com/example/headwater/headwater/core/Diagnostic", name := "breaksLine", desc := "(C)Z" } : Jvm.MethodName) prog_16_method_6_code (1 : Nat) (Option.some Jvm.ClassFile.FieldType.boolean), Jvm.Cond.code ({ cls := "com/example/headwater/headwater/core/DiagnosticBreaksLinePinLaw", name := "expected", desc := "(I)Z" } : Jvm.MethodName) method_2_code (3 : Nat) (Option.some Jvm.ClassFile.FieldType.boolean)]
set_option maxRecDepth 65536 in
theorem codes_eq : words1.filter isCode = codes1 := rfl
theorem w_codes : ∀ c ∈ words1.filter isCode, c.before args0 about1 = true := by
  rw [codes_eq]
  intro c hc
  simp only [codes1, List.mem_cons, List.not_mem_nil, or_false] at hc
  rcases hc with rfl | rfl | rfl
  · exact w_c0
  · exact w_c1
  · exact w_c2
set_option maxRecDepth 65536 in
theorem w_t1 : words1.all (fun c => isCode c || c.before args0 about1) = true := by decide +kernel
theorem w_tables : (allAtoms (Jvm.Cond.code x code maxLocals ret :: tables_1)).before args0 about1 = true := by
  rw [allAtoms_all]
  show words1.all (fun c => c.before args0 about1) = true
  refine all_split ?_ w_codes
  rw [w_t1]
set_option maxRecDepth 65536 in
theorem w_case : (Jvm.Cond.and given_1 narrow_1).before args0 about1 = true := by decide +kernel
theorem w_applies : (headSpec (Jvm.Cond.code x code maxLocals ret :: tables_1) room_1).applies x e0.platform about1 = true :=
  (Spec.applies_iff w_frames).mpr ⟨w_running, w_runnable, w_alone, w_named, w_hears, w_ripe, w_room, w_tables⟩
theorem atStart : AtStart classFile x code maxLocals ret World_1 tables_1 room_1 Calls_1 rest_1 Pre_1 launch0 p0 e0 about1 theMethod args0 below0 :=
  ⟨lists_1, trivial, launch0.admits_env _ _ _, launch0.least_env, fairChoices_fair.cas, fairChoices_fair.clock, w_frames, w_args, w_heap, w_applies, trivial, trivial, w_case⟩
end start1
theorem witness_1 : WitnessClaimed_1 := ⟨start1.p0, start1.e0, start1.about1, start1.theMethod, start1.args0, start1.below0, start1.atStart⟩
end Jvm.Pilot.@@N@@
